import PyProof.Rows.All
import PyProof.CodeObjX
import PyProof.DefMake
import PyProof.MeetsSeq
import PyProof.DictCompW
import PyProof.ZipIter
import PyProof.Rows.Range3
import Open.Line
import Lean
import PySem.Challenge.RW_rt0079_01
set_option maxRecDepth 100000
set_option linter.unusedVariables false
set_option Elab.async false
namespace Jv
open PySem PySem.W PySem.Calls PyProof.Rows
theorem byA  {p0 : Prop} {p1 : Prop} {c : Prop} (h : p0 /\ p1) (k : p0 -> p1 -> c) : c := k h.1 h.2
theorem byE.{u0} {α0 : Sort u0} {p1 : α0 -> Prop} {c : Prop} (h : ∃ x0, (p1 x0)) (k : ∀ x0 : α0, (p1 x0) -> c) : c := h.elim fun a0 h0 => k a0 h0
theorem byAA  {p0 : Prop} {p1 : Prop} {p2 : Prop} {c : Prop} (h : p0 /\ p1 /\ p2) (k : p0 -> p1 -> p2 -> c) : c := k h.1 h.2.1 h.2.2
theorem byEA.{u0} {α0 : Sort u0} {p1 : α0 -> Prop} {p2 : α0 -> Prop} {c : Prop} (h : ∃ x0, (p1 x0) /\ (p2 x0)) (k : ∀ x0 : α0, (p1 x0) -> (p2 x0) -> c) : c := h.elim fun a0 h0 => k a0 h0.1 h0.2
theorem byEE.{u0, u1} {α0 : Sort u0} {α1 : Sort u1} {p2 : α0 -> α1 -> Prop} {c : Prop} (h : ∃ x0, ∃ x1, (p2 x0 x1)) (k : ∀ x0 : α0, ∀ x1 : α1, (p2 x0 x1) -> c) : c := h.elim fun a0 h0 => h0.elim fun a1 h1 => k a0 a1 h1
theorem byAAA  {p0 : Prop} {p1 : Prop} {p2 : Prop} {p3 : Prop} {c : Prop} (h : p0 /\ p1 /\ p2 /\ p3) (k : p0 -> p1 -> p2 -> p3 -> c) : c := k h.1 h.2.1 h.2.2.1 h.2.2.2
theorem byEAA.{u0} {α0 : Sort u0} {p1 : α0 -> Prop} {p2 : α0 -> Prop} {p3 : α0 -> Prop} {c : Prop} (h : ∃ x0, (p1 x0) /\ (p2 x0) /\ (p3 x0)) (k : ∀ x0 : α0, (p1 x0) -> (p2 x0) -> (p3 x0) -> c) : c := h.elim fun a0 h0 => k a0 h0.1 h0.2.1 h0.2.2
theorem byEEA.{u0, u1} {α0 : Sort u0} {α1 : Sort u1} {p2 : α0 -> α1 -> Prop} {p3 : α0 -> α1 -> Prop} {c : Prop} (h : ∃ x0, ∃ x1, (p2 x0 x1) /\ (p3 x0 x1)) (k : ∀ x0 : α0, ∀ x1 : α1, (p2 x0 x1) -> (p3 x0 x1) -> c) : c := h.elim fun a0 h0 => h0.elim fun a1 h1 => k a0 a1 h1.1 h1.2
theorem byAAAA  {p0 : Prop} {p1 : Prop} {p2 : Prop} {p3 : Prop} {p4 : Prop} {c : Prop} (h : p0 /\ p1 /\ p2 /\ p3 /\ p4) (k : p0 -> p1 -> p2 -> p3 -> p4 -> c) : c := k h.1 h.2.1 h.2.2.1 h.2.2.2.1 h.2.2.2.2
theorem byEAAA.{u0} {α0 : Sort u0} {p1 : α0 -> Prop} {p2 : α0 -> Prop} {p3 : α0 -> Prop} {p4 : α0 -> Prop} {c : Prop} (h : ∃ x0, (p1 x0) /\ (p2 x0) /\ (p3 x0) /\ (p4 x0)) (k : ∀ x0 : α0, (p1 x0) -> (p2 x0) -> (p3 x0) -> (p4 x0) -> c) : c := h.elim fun a0 h0 => k a0 h0.1 h0.2.1 h0.2.2.1 h0.2.2.2
theorem byEAAE.{u0, u3} {α0 : Sort u0} {α3 : Sort u3} {p1 : α0 -> Prop} {p2 : α0 -> Prop} {p4 : α0 -> α3 -> Prop} {c : Prop} (h : ∃ x0, (p1 x0) /\ (p2 x0) /\ (∃ x3, (p4 x0 x3))) (k : ∀ x0 : α0, (p1 x0) -> (p2 x0) -> ∀ x3 : α3, (p4 x0 x3) -> c) : c := h.elim fun a0 h0 => h0.2.2.elim fun a3 h3 => k a0 h0.1 h0.2.1 a3 h3
theorem byEEAA.{u0, u1} {α0 : Sort u0} {α1 : Sort u1} {p2 : α0 -> α1 -> Prop} {p3 : α0 -> α1 -> Prop} {p4 : α0 -> α1 -> Prop} {c : Prop} (h : ∃ x0, ∃ x1, (p2 x0 x1) /\ (p3 x0 x1) /\ (p4 x0 x1)) (k : ∀ x0 : α0, ∀ x1 : α1, (p2 x0 x1) -> (p3 x0 x1) -> (p4 x0 x1) -> c) : c := h.elim fun a0 h0 => h0.elim fun a1 h1 => k a0 a1 h1.1 h1.2.1 h1.2.2
theorem byAEEAA.{u1, u2} {α1 : Sort u1} {α2 : Sort u2} {p0 : Prop} {p3 : α1 -> α2 -> Prop} {p4 : α1 -> α2 -> Prop} {p5 : α1 -> α2 -> Prop} {c : Prop} (h : p0 /\ (∃ x1, ∃ x2, (p3 x1 x2) /\ (p4 x1 x2) /\ (p5 x1 x2))) (k : p0 -> ∀ x1 : α1, ∀ x2 : α2, (p3 x1 x2) -> (p4 x1 x2) -> (p5 x1 x2) -> c) : c := h.2.elim fun a1 h1 => h1.elim fun a2 h2 => k h.1 a1 a2 h2.1 h2.2.1 h2.2.2
theorem byEAAEA.{u0, u3} {α0 : Sort u0} {α3 : Sort u3} {p1 : α0 -> Prop} {p2 : α0 -> Prop} {p4 : α0 -> α3 -> Prop} {p5 : α0 -> α3 -> Prop} {c : Prop} (h : ∃ x0, (p1 x0) /\ (p2 x0) /\ (∃ x3, (p4 x0 x3) /\ (p5 x0 x3))) (k : ∀ x0 : α0, (p1 x0) -> (p2 x0) -> ∀ x3 : α3, (p4 x0 x3) -> (p5 x0 x3) -> c) : c := h.elim fun a0 h0 => h0.2.2.elim fun a3 h3 => k a0 h0.1 h0.2.1 a3 h3.1 h3.2
theorem byEEAAA.{u0, u1} {α0 : Sort u0} {α1 : Sort u1} {p2 : α0 -> α1 -> Prop} {p3 : α0 -> α1 -> Prop} {p4 : α0 -> α1 -> Prop} {p5 : α0 -> α1 -> Prop} {c : Prop} (h : ∃ x0, ∃ x1, (p2 x0 x1) /\ (p3 x0 x1) /\ (p4 x0 x1) /\ (p5 x0 x1)) (k : ∀ x0 : α0, ∀ x1 : α1, (p2 x0 x1) -> (p3 x0 x1) -> (p4 x0 x1) -> (p5 x0 x1) -> c) : c := h.elim fun a0 h0 => h0.elim fun a1 h1 => k a0 a1 h1.1 h1.2.1 h1.2.2.1 h1.2.2.2
theorem byEAEAAA.{u0, u2} {α0 : Sort u0} {α2 : Sort u2} {p1 : α0 -> Prop} {p3 : α0 -> α2 -> Prop} {p4 : α0 -> α2 -> Prop} {p5 : α0 -> α2 -> Prop} {p6 : α0 -> α2 -> Prop} {c : Prop} (h : ∃ x0, (p1 x0) /\ (∃ x2, (p3 x0 x2) /\ (p4 x0 x2) /\ (p5 x0 x2) /\ (p6 x0 x2))) (k : ∀ x0 : α0, (p1 x0) -> ∀ x2 : α2, (p3 x0 x2) -> (p4 x0 x2) -> (p5 x0 x2) -> (p6 x0 x2) -> c) : c := h.elim fun a0 h0 => h0.2.elim fun a2 h2 => k a0 h0.1 a2 h2.1 h2.2.1 h2.2.2.1 h2.2.2.2
theorem byAEEEAAA.{u1, u2, u3} {α1 : Sort u1} {α2 : Sort u2} {α3 : Sort u3} {p0 : Prop} {p4 : α1 -> α2 -> α3 -> Prop} {p5 : α1 -> α2 -> α3 -> Prop} {p6 : α1 -> α2 -> α3 -> Prop} {p7 : α1 -> α2 -> α3 -> Prop} {c : Prop} (h : p0 /\ (∃ x1, ∃ x2, ∃ x3, (p4 x1 x2 x3) /\ (p5 x1 x2 x3) /\ (p6 x1 x2 x3) /\ (p7 x1 x2 x3))) (k : p0 -> ∀ x1 : α1, ∀ x2 : α2, ∀ x3 : α3, (p4 x1 x2 x3) -> (p5 x1 x2 x3) -> (p6 x1 x2 x3) -> (p7 x1 x2 x3) -> c) : c := h.2.elim fun a1 h1 => h1.elim fun a2 h2 => h2.elim fun a3 h3 => k h.1 a1 a2 a3 h3.1 h3.2.1 h3.2.2.1 h3.2.2.2
inductive D where
  | none | bool (b : Bool) | int (i : Int) | str (s : Str) | ty (T : String) | list (l : List D) | tup (l : List D) | dict (l : List (Str × D))
structure Base where
  prog : Program
  w : World
  mg : Str -> Option Value
  mb : Str -> Option Value
  n₀ : Nat
  os : OsState
  good : Heap -> Prop
noncomputable abbrev Base.M (B : Base) : Model := model B.prog B.w
structure Base.Ok (B : Base) : Prop where
  step : ∀ h h', B.good h → (∀ b o, (b < B.n₀ ∨ o.cls = .type "code") → h.get? b = some o → h'.get? b = some o) → B.good h'
  g : ∀ h, B.good h -> h.Ns mainGlobals B.mg
  b : ∀ h, B.good h -> h.Ns builtinsNs B.mb
  blt : ∀ x : Str, x ≠ "__name__" → B.mb x = bootBuiltins x
  nolimit : ∀ h, B.good h -> h.NoLimit
  low : sysModules < B.n₀
  size : ∀ h, B.good h -> B.n₀ <= h.objs.size
noncomputable def Frames (B : Base) (A : Around) (h : Heap) : Prop :=
  ∃ l, A.frames = some l ∧ ∀ env ∈ l, env.scope.kind ≠ .module ∧ ∃ L o es ep, env.frame = some L ∧ B.n₀ ≤ L ∧ h.get? L = some o ∧ o.cls = .type "frame" ∧ o.data = .dict es ep
structure Inv (B : Base) (A : Around) (s : Shared) : Prop where
  good : B.good s.heap
  gens : s.gens = #[]
  os : s.os = B.os
  fr : Frames B A s.heap
structure Room (k : Nat) (A : Around) : Prop where
  depth : A.depth + k < 1000
  units : A.units + 40 * k + 100 < 9900
  handled : 0 < k -> A.handled = none
noncomputable def Kept (h' : Heap) (b : Addr) (o : Obj) : Prop :=
  h'.get? b = some o ∨ (o.cls = .type "frame" ∧ ∃ sl, h'.get? b = some { o with slots := sl }) ∨ (o.cls = .none ∧ ∃ o', h'.get? b = some o')
noncomputable def Kp (h h' : Heap) : Prop := ∀ b o, h.get? b = some o -> Kept h' b o
noncomputable def KpOff (W : Addr -> Prop) (h h' : Heap) : Prop := ∀ b o, ¬ W b -> h.get? b = some o -> Kept h' b o
theorem Kp.refl (h : Heap) : Kp h h := fun _ _ e => .inl e
theorem Kp.of {h h' : Heap} (k : ∀ b o, h.get? b = some o -> h'.get? b = some o) : Kp h h' := fun b o e => .inl (k b o e)
theorem Kept.ex {h' : Heap} {b : Addr} {o : Obj} (k : Kept h' b o) : ∃ o', h'.get? b = some o' := by
  rcases k with k | ⟨_, sl, k⟩ | ⟨_, o', k⟩
  · exact ⟨_, k⟩
  · exact ⟨_, k⟩
  · exact ⟨_, k⟩
theorem Kept.exact {h' : Heap} {b : Addr} {o : Obj} (k : Kept h' b o) (h1 : o.cls ≠ .type "frame") (h2 : o.cls ≠ .none) : h'.get? b = some o := by
  rcases k with k | ⟨c, _⟩ | ⟨c, _⟩
  · exact k
  · exact absurd c h1
  · exact absurd c h2
theorem Kp.off {h h' : Heap} (k : Kp h h') (W : Addr -> Prop) : KpOff W h h' := fun b o _ e => k b o e
theorem KpOff.trans {W W' : Addr -> Prop} {h₁ h₂ h₃ : Heap} (x : KpOff W h₁ h₂) (y : KpOff W' h₂ h₃) (hw : ∀ b o, W' b -> h₁.get? b = some o -> W b) : KpOff W h₁ h₃ := by
  intro b o hb e
  have hb' : ¬ W' b := fun q => hb (hw b o q e)
  rcases x b o hb e with k | ⟨c, sl, k⟩ | ⟨c, o', k⟩
  · exact y b o hb' k
  · rcases y b _ hb' k with k' | ⟨_, sl', k'⟩ | ⟨c', _⟩
    · exact .inr (.inl ⟨c, sl, k'⟩)
    · exact .inr (.inl ⟨c, sl', k'⟩)
    · exact absurd (c.symm.trans c') (by simp)
  · exact .inr (.inr ⟨c, (y b o' hb' k).ex⟩)
theorem Kp.trans {h₁ h₂ h₃ : Heap} (x : Kp h₁ h₂) (y : Kp h₂ h₃) : Kp h₁ h₃ := fun b o e =>
  (KpOff.trans (W := fun _ => False) (W' := fun _ => False) (x.off _) (y.off _) fun _ _ f _ => f) b o (fun f => f) e
theorem Kp.trans_off {W : Addr -> Prop} {h₁ h₂ h₃ : Heap} (x : Kp h₁ h₂) (y : KpOff W h₂ h₃) (n : ∀ b o, h₁.get? b = some o -> ¬ W b) : Kp h₁ h₃ := fun b o e =>
  (KpOff.trans (W := W) (W' := W) (x.off _) y fun _ _ f _ => f) b o (n b o e) e
theorem Frames.off {B : Base} {A : Around} {h h' : Heap} (x : Frames B A h) (k : Kp h h') : Frames B A h' := by
  (refine byEA (x) fun l e hl => ?_; (try clear x))
  refine ⟨l, e, fun env he => ?_⟩
  (refine byA (hl env he) fun hk hr1 => ?_; refine byEE (hr1) fun L o hr2 => ?_; (try clear hr1); refine byEEAAA (hr2) fun es ep h1 h2 h3 hr3 => ?_; (try clear hr2); refine byA (hr3) fun h4 h5 => ?_; (try clear hr3))
  rcases k L o h3 with k | ⟨c, sl, k⟩ | ⟨c, _⟩
  · exact ⟨hk, L, o, es, ep, h1, h2, k, h4, h5⟩
  · exact ⟨hk, L, _, es, ep, h1, h2, k, h4, h5⟩
  · rw [h4] at c; cases c
theorem Inv.keep {B : Base} (O : B.Ok) {A : Around} {s : Shared} (I : Inv B A s) {h' : Heap} {tk : Nat} (k : ∀ b o, s.heap.get? b = some o -> h'.get? b = some o) : Inv B A { s with heap := h', toks := tk } :=
  ⟨O.step _ _ I.good fun b o _ e => k b o e, I.gens, I.os, I.fr.off (.of k)⟩
theorem Inv.tok {B : Base} {A : Around} {s : Shared} (I : Inv B A s) (tk : Nat) : Inv B A { s with toks := tk } := ⟨I.good, I.gens, I.os, I.fr⟩
noncomputable def IsData (o : Obj) : Prop := o.cls = .type "list" ∨ o.cls = .type "tuple" ∨ o.cls = .type "dict" ∨ o.cls = .type "set"
theorem IsData.kept {h' : Heap} {b : Addr} {o : Obj} (i : IsData o) (k : Kept h' b o) : h'.get? b = some o :=
  k.exact (by rcases i with e | e | e | e <;> rw [e] <;> simp) (by rcases i with e | e | e | e <;> rw [e] <;> simp)
noncomputable def IsPriv (o : Obj) : Prop := ¬ IsData o ∧ o.cls ≠ .type "frame" ∧ o.cls ≠ .type "cell"
noncomputable def KeptQ (h' : Heap) (b : Addr) (o : Obj) : Prop :=
  h'.get? b = some o ∨ (o.cls = .type "frame" ∧ ∃ sl, h'.get? b = some { o with slots := sl }) ∨ IsPriv o
noncomputable def Kq (h h' : Heap) : Prop := ∀ b o, h.get? b = some o -> KeptQ h' b o
theorem Kept.q {h' : Heap} {b : Addr} {o : Obj} (k : Kept h' b o) : KeptQ h' b o := by
  rcases k with k | k | ⟨c, k⟩
  · exact .inl k
  · exact .inr (.inl k)
  · exact .inr (.inr ⟨fun i => by rcases i with e | e | e | e <;> (rw [c] at e; cases e), by rw [c]; simp, by rw [c]; simp⟩)
theorem Kp.q {h h' : Heap} (k : Kp h h') : Kq h h' := fun b o e => (k b o e).q
theorem KeptQ.ex {h' : Heap} {b : Addr} {o : Obj} (k : KeptQ h' b o) (n : ¬ IsPriv o) : ∃ o', h'.get? b = some o' /\ ¬ IsPriv o' := by
  rcases k with k | ⟨c, sl, k⟩ | k
  · exact ⟨_, k, n⟩
  · exact ⟨_, k, fun q => q.2.1 c⟩
  · exact absurd k n
theorem IsData.nf {o : Obj} (i : IsData o) : o.cls ≠ .type "frame" ∧ o.cls ≠ .type "cell" := by
  rcases i with e | e | e | e <;> rw [e] <;> simp
theorem IsData.keptQ {h' : Heap} {b : Addr} {o : Obj} (i : IsData o) (k : KeptQ h' b o) : h'.get? b = some o := by
  rcases k with k | ⟨c, _⟩ | c
  · exact k
  · exact absurd c i.nf.1
  · exact absurd i c.1
noncomputable def PlainTup (h : Heap) (a : Addr) (items : Array Value) : Prop := ∃ n, h.get? a = some { cls := .type "tuple", data := .seq items n }
theorem PlainTup.isTuple {h : Heap} {a : Addr} {items : Array Value} (x : PlainTup h a items) : h.IsTuple a items := let ⟨n, e⟩ := x; ⟨_, e, rfl, n, rfl⟩
section
variable (B : Base) (V : Addr -> Prop) (h : Heap)
mutual
noncomputable def Lay : D -> Value -> Prop
  | .none, v => v = .none
  | .bool b, v => v = .bool b
  | .int i, v => ∃ t, v = .int i t
  | .str x, v => ∃ t, v = .str x t
  | .ty T, v => v = .type T
  | .list l, v => ∃ a, v = .ref a /\ ¬ V a /\ ∃ items, h.PlainList a items /\ Lays l items.toList
  | .tup l, v => ∃ a, v = .ref a /\ ¬ V a /\ ∃ items, PlainTup h a items /\ Lays l items.toList
  | .dict l, v => ∃ a, v = .ref a /\ ¬ V a /\ B.n₀ <= a /\ ∃ kvs, h.DictOf (strKind B.prog B.w) a kvs /\ Layd l kvs
noncomputable def Lays : List D -> List Value -> Prop
  | [], vs => vs = []
  | d :: l, vs => ∃ v r, vs = v :: r /\ Lay d v /\ Lays l r
noncomputable def Layd : List (Str × D) -> List (Str × Value) -> Prop
  | [], vs => vs = []
  | (x, d) :: l, vs => ∃ v r, vs = (x, v) :: r /\ Lay d v /\ Layd l r
end
noncomputable def Content : D -> Addr -> Prop
  | .list l, a => ∃ items, h.PlainList a items /\ Lays B V h l items.toList
  | .tup l, a => ∃ items, PlainTup h a items /\ Lays B V h l items.toList
  | .dict l, a => B.n₀ <= a /\ ∃ kvs, h.DictOf (strKind B.prog B.w) a kvs /\ Layd B V h l kvs
  | _, _ => False
end
section
variable {B : Base} {V V' : Addr -> Prop} {h h' : Heap}
mutual
theorem Lay.mono (K : ∀ b o, ¬ V b -> h.get? b = some o -> IsData o -> ¬ V' b /\ h'.get? b = some o) : ∀ {d : D} {v : Value}, Lay B V h d v -> Lay B V' h' d v
  | .none, _, x => x
  | .bool _, _, x => x
  | .int _, _, x => x
  | .str _, _, x => x
  | .ty _, _, x => x
  | .list l, v, x => by
    simp only [Lay] at x ⊢
    (refine byEAAEA (x) fun a e na items hp4 r => ?_; (try clear x); obtain ⟨n, ho⟩ := hp4)
    have z := K a _ na ho (.inl rfl)
    exact ⟨a, e, z.1, items, ⟨n, z.2⟩, Lays.mono K r⟩
  | .tup l, v, x => by
    simp only [Lay] at x ⊢
    (refine byEAAEA (x) fun a e na items hp5 r => ?_; (try clear x); obtain ⟨n, ho⟩ := hp5)
    have z := K a _ na ho (.inr (.inl rfl))
    exact ⟨a, e, z.1, items, ⟨n, z.2⟩, Lays.mono K r⟩
  | .dict l, v, x => by
    simp only [Lay] at x ⊢
    (refine byEAAA (x) fun a e na lo hr6 => ?_; (try clear x); refine byEA (hr6) fun kvs hp7 r => ?_; (try clear hr6); obtain ⟨o, es, ep, ho, hx, hd⟩ := hp7)
    have z := K a o na ho (.inr (.inr (.inl hx.1)))
    exact ⟨a, e, z.1, lo, kvs, ⟨o, es, ep, z.2, hx, hd⟩, Layd.mono K r⟩
theorem Lays.mono (K : ∀ b o, ¬ V b -> h.get? b = some o -> IsData o -> ¬ V' b /\ h'.get? b = some o) : ∀ {l : List D} {vs : List Value}, Lays B V h l vs -> Lays B V' h' l vs
  | [], _, x => x
  | d :: l, vs, x => by
    simp only [Lays] at x ⊢
    (refine byEEAA (x) fun v r e y z => ?_; (try clear x))
    exact ⟨v, r, e, Lay.mono K y, Lays.mono K z⟩
theorem Layd.mono (K : ∀ b o, ¬ V b -> h.get? b = some o -> IsData o -> ¬ V' b /\ h'.get? b = some o) : ∀ {l : List (Str × D)} {vs : List (Str × Value)}, Layd B V h l vs -> Layd B V' h' l vs
  | [], _, x => x
  | (k, d) :: l, vs, x => by
    simp only [Layd] at x ⊢
    (refine byEEAA (x) fun v r e y z => ?_; (try clear x))
    exact ⟨v, r, e, Lay.mono K y, Layd.mono K z⟩
end
theorem kpK (k : Kp h h') : ∀ b o, ¬ V b -> h.get? b = some o -> IsData o -> ¬ V b /\ h'.get? b = some o := fun b o nb e i => And.intro nb (IsData.kept i (k b o e))
theorem offK {W : Addr -> Prop} (k : KpOff W h h') (hW : ∀ b, W b -> V b) (hV : ∀ b, V' b -> V b \/ h.get? b = none) : ∀ b o, ¬ V b -> h.get? b = some o -> IsData o -> ¬ V' b /\ h'.get? b = some o :=
  fun b o nb e i => ⟨fun q => (hV b q).elim nb (fun z => by rw [e] at z; exact nomatch z), i.kept (k b o (fun q => nb (hW b q)) e)⟩
theorem kqK (k : Kq h h') : ∀ b o, ¬ V b -> h.get? b = some o -> IsData o -> ¬ V b /\ h'.get? b = some o := fun b o nb e i => And.intro nb (IsData.keptQ i (k b o e))
theorem Lay.kq {d : D} {v : Value} (x : Lay B V h d v) (k : Kq h h') : Lay B V h' d v := x.mono (kqK k)
theorem Lay.kp {d : D} {v : Value} (x : Lay B V h d v) (k : Kp h h') : Lay B V h' d v := x.mono (kpK k)
theorem Lays.kp {d : List D} {v : List Value} (x : Lays B V h d v) (k : Kp h h') : Lays B V h' d v := x.mono (kpK k)
theorem Content.mono (K : ∀ b o, ¬ V b -> h.get? b = some o -> IsData o -> ¬ V' b /\ h'.get? b = some o) {d : D} {a : Addr} (hr : ∀ o, h.get? a = some o -> IsData o -> h'.get? a = some o) (x : Content B V h d a) : Content B V' h' d a := by
  cases d with
  | list l =>
    (refine byEA (x) fun items hp8 r => ?_; (try clear x); obtain ⟨n, ho⟩ := hp8)
    exact ⟨items, ⟨n, hr _ ho (.inl rfl)⟩, r.mono K⟩
  | tup l =>
    (refine byEA (x) fun items hp9 r => ?_; (try clear x); obtain ⟨n, ho⟩ := hp9)
    exact ⟨items, ⟨n, hr _ ho (.inr (.inl rfl))⟩, r.mono K⟩
  | dict l =>
    (refine byA (x) fun lo hr10 => ?_; (try clear x); refine byEA (hr10) fun kvs hp11 r => ?_; (try clear hr10); obtain ⟨o, es, ep, ho, hx, hd⟩ := hp11)
    exact ⟨lo, kvs, ⟨o, es, ep, hr o ho (.inr (.inr (.inl hx.1))), hx, hd⟩, r.mono K⟩
  | _ => exact x.elim
theorem Content.kp {d : D} {a : Addr} (x : Content B V h d a) (k : Kp h h') : Content B V h' d a := x.mono (kpK k) fun o e i => i.kept (k a o e)
theorem Content.kq {d : D} {a : Addr} (x : Content B V h d a) (k : Kq h h') : Content B V h' d a := x.mono (kqK k) fun o e i => i.keptQ (k a o e)
theorem Content.there {d : D} {a : Addr} (x : Content B V h d a) : ∃ o, h.get? a = some o /\ IsData o := by
  cases d with
  | list l => (refine byEA (x) fun items hp12 r => ?_; (try clear x); obtain ⟨n, ho⟩ := hp12); exact ⟨_, ho, .inl rfl⟩
  | tup l => (refine byEA (x) fun items hp13 r => ?_; (try clear x); obtain ⟨n, ho⟩ := hp13); exact ⟨_, ho, .inr (.inl rfl)⟩
  | dict l => (refine byA (x) fun lo hr14 => ?_; (try clear x); refine byEA (hr14) fun kvs hp15 r => ?_; (try clear hr14); obtain ⟨o, es, ep, ho, hx, hd⟩ := hp15); exact ⟨o, ho, .inr (.inr (.inl hx.1))⟩
  | _ => exact x.elim
theorem Content.lay {d : D} {a : Addr} (x : Content B V h d a) (na : ¬ V a) : Lay B V h d (.ref a) := by
  cases d with
  | list l => simp only [Lay]; exact ⟨a, rfl, na, x⟩
  | tup l => simp only [Lay]; exact ⟨a, rfl, na, x⟩
  | dict l => simp only [Lay]; exact ⟨a, rfl, na, x⟩
  | _ => exact x.elim
noncomputable def LayB (B : Base) (V : Addr -> Prop) (h : Heap) (d : D) (v : Value) : Prop := Lay B V h d v \/ ∃ a, v = .ref a /\ Content B V h d a
theorem LayB.kp {d : D} {v : Value} (x : LayB B V h d v) (k : Kp h h') : LayB B V h' d v := x.imp (·.kp k) fun ⟨a, e, c⟩ => ⟨a, e, c.kp k⟩
theorem LayB.asList {l : List D} {v : Value} (x : LayB B V h (.list l) v) : ∃ a items, v = .ref a /\ h.PlainList a items /\ Lays B V h l items.toList := by
  rcases x with x | ⟨a, e, items, r⟩
  · simp only [Lay] at x; (refine byEAAE (x) fun a e _ items r => ?_; (try clear x)); exact ⟨a, items, e, r⟩
  · exact ⟨a, items, e, r⟩
theorem LayB.asTup {l : List D} {v : Value} (x : LayB B V h (.tup l) v) : ∃ a items, v = .ref a /\ PlainTup h a items /\ Lays B V h l items.toList := by
  rcases x with x | ⟨a, e, items, r⟩
  · simp only [Lay] at x; (refine byEAAE (x) fun a e _ items r => ?_; (try clear x)); exact ⟨a, items, e, r⟩
  · exact ⟨a, items, e, r⟩
theorem LayB.asInt {i : Int} {v : Value} (x : LayB B V h (.int i) v) : ∃ t, v = .int i t := by
  rcases x with x | ⟨a, e, r⟩
  · simpa only [Lay] using x
  · exact r.elim
theorem LayB.asStr {i : Str} {v : Value} (x : LayB B V h (.str i) v) : ∃ t, v = .str i t := by
  rcases x with x | ⟨a, e, r⟩
  · simpa only [Lay] using x
  · exact r.elim
theorem LayB.asBool {i : Bool} {v : Value} (x : LayB B V h (.bool i) v) : v = .bool i := by
  rcases x with x | ⟨a, e, r⟩
  · simpa only [Lay] using x
  · exact r.elim
theorem Lays.get {l : List D} : ∀ {vs : List Value} {i : Nat} {d : D}, Lays B V h l vs -> l[i]? = some d -> ∃ v, vs[i]? = some v /\ Lay B V h d v := by
  induction l with
  | nil => intro vs i d _ e; simp at e
  | cons x l ih =>
    intro vs i d z e
    simp only [Lays] at z
    (refine byEEA (z) fun v r hq17 hr18 => ?_; (try clear z); subst hq17; refine byA (hr18) fun y z => ?_; (try clear hr18))
    cases i with
    | zero => simp at e; subst e; exact ⟨v, by simp, y⟩
    | succ i => simp at e; refine byEA (ih z e) fun v' a b => ?_; exact ⟨v', by simpa using a, b⟩
theorem Lays.length : ∀ {l : List D} {vs : List Value}, Lays B V h l vs -> vs.length = l.length
  | [], vs, x => by simp only [Lays] at x; subst x; rfl
  | d :: l, vs, x => by simp only [Lays] at x; (refine byEEA (x) fun v r hq19 hr20 => ?_; (try clear x); subst hq19; refine byA (hr20) fun y z => ?_; (try clear hr20)); simp [Lays.length z]
theorem Lays.append : ∀ {l l' : List D} {vs vs' : List Value}, Lays B V h l vs -> Lays B V h l' vs' -> Lays B V h (l ++ l') (vs ++ vs')
  | [], l', vs, vs', x, y => by simp only [Lays] at x; subst x; exact y
  | d :: l, l', vs, vs', x, y => by
    simp only [Lays] at x
    (refine byEEA (x) fun v r hq21 hr22 => ?_; (try clear x); subst hq21; refine byA (hr22) fun a z => ?_; (try clear hr22))
    rw [List.cons_append]
    simp only [Lays]
    exact ⟨v, r ++ vs', by simp, a, Lays.append z y⟩
theorem Lays.one {d : D} {v : Value} (x : Lay B V h d v) : Lays B V h [d] [v] := by simp only [Lays]; exact ⟨v, [], rfl, x, rfl⟩
theorem Lays.drop : ∀ {l : List D} {vs : List Value} (n : Nat), Lays B V h l vs -> Lays B V h (l.drop n) (vs.drop n)
  | [], vs, n, x => by simp only [Lays] at x; subst x; simp [Lays]
  | d :: l, vs, 0, x => x
  | d :: l, vs, n + 1, x => by simp only [Lays] at x; (refine byEEA (x) fun v r hq23 hr24 => ?_; (try clear x); subst hq23; refine byA (hr24) fun y z => ?_; (try clear hr24)); simpa using Lays.drop n z
theorem Lays.take : ∀ {l : List D} {vs : List Value} (n : Nat), Lays B V h l vs -> Lays B V h (l.take n) (vs.take n)
  | [], vs, n, x => by simp only [Lays] at x; subst x; simp [Lays]
  | d :: l, vs, 0, x => by simp [Lays]
  | d :: l, vs, n + 1, x => by simp only [Lays] at x; (refine byEEA (x) fun v r hq25 hr26 => ?_; (try clear x); subst hq25; refine byA (hr26) fun y z => ?_; (try clear hr26)); simp only [List.take_succ_cons, Lays]; exact ⟨v, _, rfl, y, Lays.take n z⟩
theorem Lays.set : ∀ {l : List D} {vs : List Value} (n : Nat) {d : D} {v : Value}, Lays B V h l vs -> Lay B V h d v -> Lays B V h (l.set n d) (vs.set n v)
  | [], vs, n, _, _, x, _ => by simp only [Lays] at x; subst x; simp [Lays]
  | d :: l, vs, 0, d', v', x, y' => by simp only [Lays] at x; (refine byEEA (x) fun v r hq27 hr28 => ?_; (try clear x); subst hq27; refine byA (hr28) fun y z => ?_; (try clear hr28)); simp only [List.set_cons_zero, Lays]; exact ⟨v', _, rfl, y', z⟩
  | d :: l, vs, n + 1, d', v', x, y' => by simp only [Lays] at x; (refine byEEA (x) fun v r hq29 hr30 => ?_; (try clear x); subst hq29; refine byA (hr30) fun y z => ?_; (try clear hr30)); simp only [List.set_cons_succ, Lays]; exact ⟨v, _, rfl, y, Lays.set n z y'⟩
end
end Jv
namespace Jv
open PySem PySem.W PySem.Calls PyProof.Rows
noncomputable abbrev Kinds := Str -> Option NameKind
structure EnvOk (K : Kinds) (env : Env) : Prop where
  fn : env.scope.kind = .function
  glob : env.globals = mainGlobals
  blt : env.builtins = builtinsNs
  kind : ∀ x, env.kindOf x = K x
noncomputable def LocAt (h : Heap) (L : Addr) (m : Str -> Option Value) : Prop := h.Ns L m /\ ∀ o, h.get? L = some o -> ¬ IsPriv o
noncomputable def CellAt (h : Heap) (c : Addr) (v : Option Value) : Prop := ∃ o, h.get? c = some o ∧ o.cls = .type "cell" ∧ o.data = .cell v
theorem CellAt.is {h : Heap} {c : Addr} {v : Option Value} (x : CellAt h c v) : h.IsCell c v := let ⟨o, a, _, b⟩ := x; ⟨o, a, b⟩
noncomputable def Looks (h : Heap) (env : Env) (x : Str) (v : Value) : Prop :=
  (env.kindOf x = some .local /\ ∃ m, LocAt h env.locals m /\ m x = some v) \/
  ((env.kindOf x = some .cell \/ env.kindOf x = some .free) /\ ∃ c, env.cells.lookup x = some c /\ CellAt h c (some v))
theorem LocAt.keptQ {h h' : Heap} {L : Addr} {m : Str -> Option Value} (x : LocAt h L m) (k : ∀ o, h.get? L = some o -> KeptQ h' L o) : LocAt h' L m := by
  (refine byA (x) fun hp1 hc => ?_; (try clear x); obtain ⟨o, es, ep, ho, hd, hk, hf⟩ := hp1)
  rcases k o ho with k | ⟨c, sl, k⟩ | c
  · exact ⟨⟨o, es, ep, k, hd, hk, hf⟩, fun o' e => by rw [k] at e; cases e; exact hc o ho⟩
  · exact ⟨⟨_, es, ep, k, hd, hk, hf⟩, fun o' e => by rw [k] at e; cases e; exact hc o ho⟩
  · exact absurd c (hc o ho)
theorem CellAt.keptQ {h h' : Heap} {c : Addr} {v : Option Value} (x : CellAt h c v) (k : ∀ o, h.get? c = some o -> KeptQ h' c o) : CellAt h' c v := by
  (refine byEAA (x) fun o ho hc hd => ?_; (try clear x))
  rcases k o ho with k | ⟨q, _⟩ | q
  · exact ⟨o, k, hc, hd⟩
  · rw [hc] at q; exact absurd q (by simp)
  · exact absurd hc q.2.2
theorem LocAt.kept {h h' : Heap} {L : Addr} {m : Str -> Option Value} (x : LocAt h L m) (k : ∀ o, h.get? L = some o -> Kept h' L o) : LocAt h' L m := x.keptQ fun o e => (k o e).q
theorem CellAt.kept {h h' : Heap} {c : Addr} {v : Option Value} (x : CellAt h c v) (k : ∀ o, h.get? c = some o -> Kept h' c o) : CellAt h' c v := x.keptQ fun o e => (k o e).q
theorem Looks.kq {h h' : Heap} {env : Env} {x : Str} {v : Value} (l : Looks h env x v) (k : Kq h h') : Looks h' env x v := by
  rcases l with ⟨e, m, a, b⟩ | ⟨e, c, a, b⟩
  · exact .inl ⟨e, m, a.keptQ fun o e => k _ o e, b⟩
  · exact .inr ⟨e, c, a, b.keptQ fun o e => k _ o e⟩
theorem Looks.kp {h h' : Heap} {env : Env} {x : Str} {v : Value} (l : Looks h env x v) (k : Kp h h') : Looks h' env x v := l.kq k.q
theorem Looks.same {h : Heap} {env : Env} {x : Str} {v v' : Value} (l : Looks h env x v) (l' : Looks h env x v') : v = v' := by
  rcases l with ⟨e, m, a, b⟩ | ⟨e, c, a, b⟩ <;> rcases l' with ⟨e', m', a', b'⟩ | ⟨e', c', a', b'⟩
  · have := a.1.agree a'.1 x
    rw [b, b'] at this
    exact Option.some.inj this
  · rcases e' with e' | e' <;> (rw [e] at e'; cases e')
  · rcases e with e | e <;> (rw [e'] at e; cases e)
  · rw [a] at a'; cases a'
    (refine byEAA (b) fun o h1 _ h2 => ?_; (try clear b))
    (refine byEAA (b') fun o' h1' _ h2' => ?_; (try clear b'))
    rw [h1] at h1'; cases h1'
    rw [h2] at h2'; injection h2' with h2'; exact Option.some.inj h2'
inductive Slot where
  | sh (d : D)
  | own (a : Option Addr) (d : D)
noncomputable abbrev G := List (Str × Slot)
noncomputable def Holds (B : Base) (V : Addr -> Prop) (h : Heap) : Slot -> Value -> Prop
  | .sh d, v => Lay B V h d v
  | .own a? d, v => ∃ a, v = .ref a /\ (∀ a₀, a? = some a₀ -> a = a₀) /\ V a /\ Content B V h d a
noncomputable def Slot.d : Slot -> D
  | .sh d => d
  | .own _ d => d
structure EnvR (B : Base) (V : Addr -> Prop) (h : Heap) (env : Env) (Γ : G) : Prop where
  domP : ∀ b, V b -> ∃ o, h.get? b = some o /\ ¬ IsPriv o
  vars : ∀ x sl, Γ.lookup x = some sl -> ∃ v, Looks h env x v /\ Holds B V h sl v
theorem EnvR.dom {B : Base} {V : Addr -> Prop} {h : Heap} {env : Env} {Γ : G} (r : EnvR B V h env Γ) (b : Addr) (hb : V b) : ∃ o, h.get? b = some o := let ⟨o, e, _⟩ := r.domP b hb; ⟨o, e⟩
theorem Holds.kq {B : Base} {V : Addr -> Prop} {h h' : Heap} {sl : Slot} {v : Value} (x : Holds B V h sl v) (k : Kq h h') : Holds B V h' sl v := by
  cases sl with
  | sh d => exact Lay.kq x k
  | own a? d => (refine byEAAA (x) fun a e f g c => ?_; (try clear x)); exact ⟨a, e, f, g, c.kq k⟩
theorem Holds.kp {B : Base} {V : Addr -> Prop} {h h' : Heap} {sl : Slot} {v : Value} (x : Holds B V h sl v) (k : Kp h h') : Holds B V h' sl v := x.kq k.q
theorem Holds.layB {B : Base} {V : Addr -> Prop} {h : Heap} {sl : Slot} {v : Value} (x : Holds B V h sl v) : LayB B V h sl.d v := by
  cases sl with
  | sh d => exact .inl x
  | own a? d => (refine byEAAA (x) fun a e f g c => ?_; (try clear x)); exact .inr ⟨a, e, c⟩
theorem EnvR.kq {B : Base} {V : Addr -> Prop} {h h' : Heap} {env : Env} {Γ : G} (r : EnvR B V h env Γ) (k : Kq h h') : EnvR B V h' env Γ :=
  ⟨fun b hb => let ⟨o, e, n⟩ := r.domP b hb; (k b o e).ex n, fun x sl e => let ⟨v, l, y⟩ := r.vars x sl e; ⟨v, l.kq k, y.kq k⟩⟩
theorem EnvR.kp {B : Base} {V : Addr -> Prop} {h h' : Heap} {env : Env} {Γ : G} (r : EnvR B V h env Γ) (k : Kp h h') : EnvR B V h' env Γ := r.kq k.q
section
variable (B : Base) (k : Nat) (K : Kinds) (Γ : G) (e : Expr)
structure Ev (d : D) : Prop where
  run : ∀ (A : Around) (env : Env) (V : Addr -> Prop) (s : Shared) (Q : Value -> Shared -> Prop) (E : Value -> Shared -> Prop),
  Room k A -> EnvOk K env -> Inv B A s -> EnvR B V s.heap env Γ ->
  (∀ v s', Inv B A s' -> Kp s.heap s'.heap -> Lay B V s'.heap d v -> Q v s') -> wpAny B.M A (eval e env) Q E s
structure EvB (d : D) : Prop where
  run : ∀ (A : Around) (env : Env) (V : Addr -> Prop) (s : Shared) (Q : Value -> Shared -> Prop) (E : Value -> Shared -> Prop),
  Room k A -> EnvOk K env -> Inv B A s -> EnvR B V s.heap env Γ ->
  (∀ v s', Inv B A s' -> Kp s.heap s'.heap -> LayB B V s'.heap d v -> Q v s') -> wpAny B.M A (eval e env) Q E s
structure EvF (d : D) : Prop where
  run : ∀ (A : Around) (env : Env) (V : Addr -> Prop) (s : Shared) (Q : Value -> Shared -> Prop) (E : Value -> Shared -> Prop),
  Room k A -> EnvOk K env -> Inv B A s -> EnvR B V s.heap env Γ ->
  (∀ a s', Inv B A s' -> Kp s.heap s'.heap -> s.heap.get? a = none -> B.n₀ <= a -> Content B (fun b => V b \/ b = a) s'.heap d a -> Q (.ref a) s') -> wpAny B.M A (eval e env) Q E s
structure EvT (b : Bool) : Prop where
  run : ∀ (A : Around) (env : Env) (V : Addr -> Prop) (s : Shared) (Q : Bool -> Shared -> Prop) (E : Value -> Shared -> Prop),
  Room k A -> EnvOk K env -> Inv B A s -> EnvR B V s.heap env Γ ->
  (∀ s', Inv B A s' -> Kp s.heap s'.heap -> Q b s') -> wpAny B.M A (isTrue e env (eval e env)) Q E s
end
theorem Ev.b {B : Base} {k : Nat} {K : Kinds} {Γ : G} {e : Expr} {d : D} (x : Ev B k K Γ e d) : EvB B k K Γ e d :=
  .mk fun A env V s Q E r o i g h => x.run A env V s Q E r o i g fun v s' a b c => h v s' a b (.inl c)
theorem Content.shrink {B : Base} {V V' : Addr -> Prop} {h : Heap} {d : D} {a : Addr} (x : Content B V' h d a) (hv : ∀ b, V b -> V' b) : Content B V h d a :=
  x.mono (fun b o nb e _ => ⟨fun q => nb (hv b q), e⟩) fun o e _ => e
theorem EvF.ev {B : Base} {k : Nat} {K : Kinds} {Γ : G} {e : Expr} {d : D} (x : EvF B k K Γ e d) : Ev B k K Γ e d :=
  .mk fun A env V s Q E r o i g h => x.run A env V s Q E r o i g fun a s' i' kp new lo c => h _ s' i' kp
    ((c.shrink fun b q => .inl q).lay fun q => by refine byE (g.dom a q) fun o e => ?_; rw [new] at e; cases e)
structure Stm (B : Base) (V₀ W : Addr -> Prop) (h : Heap) (env : Env) (Γ : G) : Prop where
  r : EnvR B (fun b => V₀ b \/ W b) h env Γ
  hi : ∀ b, W b -> B.n₀ <= b
  frame : env.frame = some env.locals
  loc : W env.locals ∧ ∃ o es ep, h.get? env.locals = some o ∧ o.cls = .type "frame" ∧ o.data = .dict es ep ∧ StrKeys es
  cells : ∀ x c, (x, c) ∈ env.cells -> W c /\ ∃ v, CellAt h c v
  apart : env.cells.Pairwise fun x y => x.2 ≠ y.2
  kinds : ∀ x, env.kindOf x = some .cell -> ∃ c, env.cells.lookup x = some c
  own : ∀ x a? d v, Γ.lookup x = some (.own a? d) -> Looks h env x v -> ∃ a, v = .ref a /\ W a /\ (a? = none -> ¬ V₀ a)
  apo : ∀ x y a?x dx a?y dy v, Γ.lookup x = some (.own a?x dx) -> Γ.lookup y = some (.own a?y dy) -> Looks h env x v -> Looks h env y v -> x = y
inductive Out where
  | next | brk | ret (d : D)
noncomputable def OutIs (B : Base) (V : Addr -> Prop) (h : Heap) : Out -> Flow -> Prop
  | .next, f => f = .next
  | .brk, f => f = .brk
  | .ret d, f => ∃ v, f = .ret v /\ Lay B V h d v
structure Ext (W : Addr -> Prop) (h : Heap) (W' : Addr -> Prop) (h' : Heap) : Prop where
  new : ∀ b, W' b -> W b \/ h.get? b = none
  kp : KpOff W h h'
theorem Ext.refl (W : Addr -> Prop) (h : Heap) : Ext W h W h := ⟨fun _ q => .inl q, (Kp.refl h).off _⟩
theorem Ext.of_kp {W : Addr -> Prop} {h h' : Heap} (k : Kp h h') : Ext W h W h' := ⟨fun _ q => .inl q, k.off _⟩
noncomputable def Dom (h h' : Heap) : Prop := ∀ b o, h.get? b = some o -> ∃ o', h'.get? b = some o'
theorem Ext.trans {W₁ W₂ W₃ : Addr -> Prop} {h₁ h₂ h₃ : Heap} (x : Ext W₁ h₁ W₂ h₂) (y : Ext W₂ h₂ W₃ h₃) (dm : Dom h₁ h₂) : Ext W₁ h₁ W₃ h₃ :=
  ⟨fun b q => (by
    rcases y.new b q with q | q
    · exact x.new b q
    · right
      cases e : h₁.get? b with
      | none => rfl
      | some o => refine byE (dm b o e) fun o' e' => ?_; rw [q] at e'; cases e'),
   x.kp.trans y.kp fun b o q e => (x.new b q).resolve_right fun z => by rw [e] at z; cases z⟩
section
variable (B : Base) (k : Nat) (K : Kinds) (Γ : G)
structure Ex (ss : List Stmt) (o : Out) (Γ' : G) : Prop where
  run : ∀ (A : Around) (env : Env) (V₀ W : Addr -> Prop) (s : Shared) (Q : Flow -> Shared -> Prop) (E : Value -> Shared -> Prop),
  Room k A -> EnvOk K env -> Inv B A s -> Stm B V₀ W s.heap env Γ ->
  (∀ fl s' W', Inv B A s' -> Dom s.heap s'.heap -> Ext W s.heap W' s'.heap -> Stm B V₀ W' s'.heap env Γ' -> OutIs B (fun b => V₀ b \/ W' b) s'.heap o fl -> Q fl s') ->
  wpAny B.M A (execs ss env) Q E s
structure Ex1 (st : Stmt) (o : Out) (Γ' : G) : Prop where
  run : ∀ (A : Around) (env : Env) (V₀ W : Addr -> Prop) (s : Shared) (Q : Flow -> Shared -> Prop) (E : Value -> Shared -> Prop),
  Room k A -> EnvOk K env -> Inv B A s -> Stm B V₀ W s.heap env Γ ->
  (∀ fl s' W', Inv B A s' -> Dom s.heap s'.heap -> Ext W s.heap W' s'.heap -> Stm B V₀ W' s'.heap env Γ' -> OutIs B (fun b => V₀ b \/ W' b) s'.heap o fl -> Q fl s') ->
  wpAny B.M A (exec st env) Q E s
structure EvM (e : Expr) (d : D) (Γ' : G) : Prop where
  run : ∀ (A : Around) (env : Env) (V₀ W : Addr -> Prop) (s : Shared) (Q : Value -> Shared -> Prop) (E : Value -> Shared -> Prop),
  Room k A -> EnvOk K env -> Inv B A s -> Stm B V₀ W s.heap env Γ ->
  (∀ v s' W', Inv B A s' -> Dom s.heap s'.heap -> Ext W s.heap W' s'.heap -> Stm B V₀ W' s'.heap env Γ' -> Lay B (fun b => V₀ b \/ W' b) s'.heap d v -> Q v s') ->
  wpAny B.M A (eval e env) Q E s
end
theorem Dom.refl (h : Heap) : Dom h h := fun _ o e => ⟨o, e⟩
theorem Dom.trans {h₁ h₂ h₃ : Heap} (x : Dom h₁ h₂) (y : Dom h₂ h₃) : Dom h₁ h₃ := fun b o e => let ⟨o', e'⟩ := x b o e; y b o' e'
theorem Kp.dom {h h' : Heap} (k : Kp h h') : Dom h h' := fun b o e => (k b o e).ex
theorem Ex.nil {B : Base} {k : Nat} {K : Kinds} {Γ : G} : Ex B k K Γ [] .next Γ := .mk fun A env V₀ W s Q E _ _ i st h =>
  wpAny_execs_nil (h .next s W i (.refl _) (.refl _ _) st rfl)
theorem Ex.cons {B : Base} {k : Nat} {K : Kinds} {Γ Γ₁ Γ₂ : G} {st : Stmt} {ss : List Stmt} {o : Out} (x : Ex1 B k K Γ st .next Γ₁) (y : Ex B k K Γ₁ ss o Γ₂) : Ex B k K Γ (st :: ss) o Γ₂ :=
  .mk fun A env V₀ W s Q E r eo i z h => wpAny_execs_cons (x.run A env V₀ W s _ E r eo i z fun fl s' W' i' dm ex z' ou => by
    obtain rfl : fl = .next := ou
    exact y.run A env V₀ W' s' Q E r eo i' z' fun fl s'' W'' i'' dm' ex' z'' ou' => h fl s'' W'' i'' (dm.trans dm') (ex.trans ex' dm) z'' ou')
theorem Ex.stop {B : Base} {k : Nat} {K : Kinds} {Γ Γ₁ : G} {st : Stmt} {ss : List Stmt} {o : Out} (x : Ex1 B k K Γ st o Γ₁) (ho : o ≠ .next) : Ex B k K Γ (st :: ss) o Γ₁ :=
  .mk fun A env V₀ W s Q E r eo i z h => wpAny_execs_cons (x.run A env V₀ W s _ E r eo i z fun fl s' W' i' dm ex z' ou => by
    have := h fl s' W' i' dm ex z' ou
    cases o with
    | next => exact absurd rfl ho
    | brk => obtain rfl : fl = .brk := ou; exact this
    | ret d => (refine byEA (ou) fun v hq2 _ => ?_; (try clear ou); subst hq2); exact this)
section
variable {B : Base} {k : Nat} {K : Kinds} {Γ : G}
theorem loadName_looks {M : Model} {A : Around} {env : Env} {x : Str} {v : Value} {s : Shared} {Q : Value -> Shared -> Prop} {E : Value -> Shared -> Prop} (o : EnvOk K env) (l : Looks s.heap env x v)
    (hc : (x == ("__classdict__" : Str)) = false) (h : Q v s) : wpAny M A (loadName env x) Q E s := by
  rcases l with ⟨e, m, a, b⟩ | ⟨e, c, a, b⟩
  · exact wpAny_loadName_local o.fn e a.1 b h
  · rcases e with e | e
    · exact wpAny_loadName_cell o.fn e a b.is h
    · exact wpAny_loadName_free o.fn e a b.is h hc
theorem Ev.name {x : Str} {p : Pos} {d : D} (hx : Γ.lookup x = some (.sh d)) (h1 : (x == ("__debug__" : Str)) = false := by decide) (h2 : (x == ("__classdict__" : Str)) = false := by decide) : Ev B k K Γ (.Name x p) d :=
  .mk fun A env V s Q E r o i g h => by
    refine byEA (g.vars x _ hx) fun v l y => ?_
    exact wpAny_Name (loadName_looks o l h2 (h v s i (.refl _) y)) h1
theorem EvB.name {x : Str} {p : Pos} {sl : Slot} (hx : Γ.lookup x = some sl) (h1 : (x == ("__debug__" : Str)) = false := by decide) (h2 : (x == ("__classdict__" : Str)) = false := by decide) : EvB B k K Γ (.Name x p) sl.d :=
  .mk fun A env V s Q E r o i g h => by
    refine byEA (g.vars x _ hx) fun v l y => ?_
    exact wpAny_Name (loadName_looks o l h2 (h v s i (.refl _) y.layB)) h1
theorem Ev.cint {i : Int} {n : Nat} {p : Pos} : Ev B k K Γ (.Constant (.int i) n p) (.int i) := .mk fun A env V s Q E r o I g h =>
  wpAny_Constant_int (h _ _ (I.tok _) (.refl _) ⟨_, rfl⟩)
theorem Ev.cstr {x : Str} {n : Nat} {p : Pos} : Ev B k K Γ (.Constant (.str x) n p) (.str x) := .mk fun A env V s Q E r o I g h =>
  wpAny_Constant_str (h _ _ (I.tok _) (.refl _) ⟨_, rfl⟩)
theorem Ev.cbool {b : Bool} {n : Nat} {p : Pos} : Ev B k K Γ (.Constant (.bool b) n p) (.bool b) := .mk fun A env V s Q E r o I g h =>
  wpAny_Constant_bool (h _ _ I (.refl _) rfl)
noncomputable def BinR (B : Base) (k : Nat) (op : Operator) (d₁ d₂ d : D) : Prop := ∀ (A : Around) (V : Addr -> Prop) (s : Shared) (v₁ v₂ : Value) (Q : Value -> Shared -> Prop) (E : Value -> Shared -> Prop),
  Room k A -> Inv B A s -> (∀ b, V b -> ∃ o, s.heap.get? b = some o) -> LayB B V s.heap d₁ v₁ -> LayB B V s.heap d₂ v₂ -> (∀ v s', Inv B A s' -> Kp s.heap s'.heap -> Lay B V s'.heap d v -> Q v s') -> wpAny B.M A (binaryOp op v₁ v₂) Q E s
noncomputable def CmpR (B : Base) (k : Nat) (op : CmpOp) (d₁ d₂ : D) (b : Bool) : Prop := ∀ (A : Around) (V : Addr -> Prop) (s : Shared) (v₁ v₂ : Value) (Q : Value -> Shared -> Prop) (E : Value -> Shared -> Prop),
  Room k A -> Inv B A s -> (∀ b, V b -> ∃ o, s.heap.get? b = some o) -> LayB B V s.heap d₁ v₁ -> LayB B V s.heap d₂ v₂ -> (∀ s', Inv B A s' -> Kp s.heap s'.heap -> Q (.bool b) s') -> wpAny B.M A (compareOp op v₁ v₂) Q E s
theorem Ev.bin {l r : Expr} {op : Operator} {p : Pos} {d₁ d₂ d : D} (x : EvB B k K Γ l d₁) (y : EvB B k K Γ r d₂) (z : BinR B k op d₁ d₂ d) : Ev B k K Γ (.BinOp l op r p) d :=
  .mk fun A env V s Q E rm o i g h => wpAny_BinOp (x.run A env V s _ E rm o i g fun v₁ s₁ i₁ k₁ l₁ => y.run A env V s₁ _ E rm o i₁ (g.kp k₁) fun v₂ s₂ i₂ k₂ l₂ =>
    z A V s₂ v₁ v₂ Q E rm i₂ ((g.kp k₁).kp k₂).dom (l₁.kp k₂) l₂ fun v s₃ i₃ k₃ l₃ => h v s₃ i₃ ((k₁.trans k₂).trans k₃) l₃)
theorem Ev.cmp {l r : Expr} {op : CmpOp} {p : Pos} {d₁ d₂ : D} {b : Bool} (x : EvB B k K Γ l d₁) (y : EvB B k K Γ r d₂) (z : CmpR B k op d₁ d₂ b) (hm : behindInMarks op r = false := by rfl) : Ev B k K Γ (.Compare l [op] [r] p) (.bool b) :=
  .mk fun A env V s Q E rm o i g h => wpAny_Compare1 (x.run A env V s _ E rm o i g fun v₁ s₁ i₁ k₁ l₁ => y.run A env V s₁ _ E rm o i₁ (g.kp k₁) fun v₂ s₂ i₂ k₂ l₂ =>
    z A V s₂ v₁ v₂ Q E rm i₂ ((g.kp k₁).kp k₂).dom (l₁.kp k₂) l₂ fun s₃ i₃ k₃ => h _ s₃ i₃ ((k₁.trans k₂).trans k₃) rfl) hm
theorem EvT.cmp {l r : Expr} {op : CmpOp} {p : Pos} {d₁ d₂ : D} {b : Bool} (x : EvB B k K Γ l d₁) (y : EvB B k K Γ r d₂) (z : CmpR B k op d₁ d₂ b) (hm : behindInMarks op r = false := by rfl) : EvT B k K Γ (.Compare l [op] [r] p) b :=
  .mk fun A env V s Q E rm o i g h => wpAny_isTrue_Compare1 (x.run A env V s _ E rm o i g fun v₁ s₁ i₁ k₁ l₁ => y.run A env V s₁ _ E rm o i₁ (g.kp k₁) fun v₂ s₂ i₂ k₂ l₂ =>
    z A V s₂ v₁ v₂ _ E rm i₂ ((g.kp k₁).kp k₂).dom (l₁.kp k₂) l₂ fun s₃ i₃ k₃ => wpAny_truthy_bool (h s₃ i₃ ((k₁.trans k₂).trans k₃))) hm
theorem BinR.add_int {a b : Int} : BinR B k .Add (.int a) (.int b) (.int (a + b)) := fun A V s v₁ v₂ Q E r i dm x y h => by
  (refine byE (x.asInt) fun t hq1 => ?_; subst hq1); (refine byE (y.asInt) fun u hq2 => ?_; subst hq2)
  exact PyProof.Rows.add_int (h _ _ (i.tok _) (.refl _) ⟨_, rfl⟩)
theorem BinR.sub_int {a b : Int} : BinR B k .Sub (.int a) (.int b) (.int (a - b)) := fun A V s v₁ v₂ Q E r i dm x y h => by
  (refine byE (x.asInt) fun t hq3 => ?_; subst hq3); (refine byE (y.asInt) fun u hq4 => ?_; subst hq4)
  exact PyProof.Rows.sub_int (h _ _ (i.tok _) (.refl _) ⟨_, rfl⟩)
theorem BinR.mod_int {a b : Int} (hb : b ≠ 0) : BinR B k .Mod (.int a) (.int b) (.int (a.fmod b)) := fun A V s v₁ v₂ Q E r i dm x y h => by
  (refine byE (x.asInt) fun t hq7 => ?_; subst hq7); (refine byE (y.asInt) fun u hq8 => ?_; subst hq8)
  exact PyProof.Rows.mod_int hb (h _ _ (i.tok _) (.refl _) ⟨_, rfl⟩)
theorem BinR.div_int {a b : Int} (hb : b ≠ 0) (hp : Builtin.divisionGoesByPylong a b = false) : BinR B k .FloorDiv (.int a) (.int b) (.int (a.fdiv b)) := fun A V s v₁ v₂ Q E r i dm x y h => by
  (refine byE (x.asInt) fun t hq9 => ?_; subst hq9); (refine byE (y.asInt) fun u hq10 => ?_; subst hq10)
  exact PyProof.Rows.floordiv_int hb (h _ _ (i.tok _) (.refl _) ⟨_, rfl⟩) (.inl hp)
theorem BinR.pow_int {a n : Int} (h0 : 0 <= n) (hz : ↑(Builtin.Int.intBits a) * n <= 2 ^ 27) : BinR B k .Pow (.int a) (.int n) (.int (a ^ n.toNat)) := fun A V s v₁ v₂ Q E r i dm x y h => by
  (refine byE (x.asInt) fun t hq11 => ?_; subst hq11); (refine byE (y.asInt) fun u hq12 => ?_; subst hq12)
  exact PyProof.Rows.pow_int h0 hz (h _ _ (i.tok _) (.refl _) ⟨_, rfl⟩)
theorem BinR.add_str {a b : Str} (hz : a.length + b.length <= sizeLine) : BinR B k .Add (.str a) (.str b) (.str (a ++ b)) := fun A V s v₁ v₂ Q E r i dm x y h => by
  (refine byE (x.asStr) fun t hq13 => ?_; subst hq13); (refine byE (y.asStr) fun u hq14 => ?_; subst hq14)
  exact PyProof.Rows.add_str (fun t' tk => h _ _ (i.tok _) (.refl _) ⟨_, rfl⟩) hz
theorem CmpR.eq_int {a b : Int} : CmpR B k .Eq (.int a) (.int b) (a == b) := fun A V s v₁ v₂ Q E r i dm x y h => by
  (refine byE (x.asInt) fun t hq15 => ?_; subst hq15); (refine byE (y.asInt) fun u hq16 => ?_; subst hq16)
  exact PyProof.Rows.eq_int (h _ i (.refl _))
theorem CmpR.ne_int {a b : Int} : CmpR B k .NotEq (.int a) (.int b) (a != b) := fun A V s v₁ v₂ Q E r i dm x y h => by
  (refine byE (x.asInt) fun t hq17 => ?_; subst hq17); (refine byE (y.asInt) fun u hq18 => ?_; subst hq18)
  exact PyProof.Rows.ne_int (h _ i (.refl _))
theorem CmpR.eq_str {a b : Str} : CmpR B k .Eq (.str a) (.str b) (a == b) := fun A V s v₁ v₂ Q E r i dm x y h => by
  (refine byE (x.asStr) fun t hq23 => ?_; subst hq23); (refine byE (y.asStr) fun u hq24 => ?_; subst hq24)
  exact PyProof.Rows.eq_str (h _ i (.refl _))
theorem CmpR.ne_str {a b : Str} : CmpR B k .NotEq (.str a) (.str b) (a != b) := fun A V s v₁ v₂ Q E r i dm x y h => by
  (refine byE (x.asStr) fun t hq25 => ?_; subst hq25); (refine byE (y.asStr) fun u hq26 => ?_; subst hq26)
  exact PyProof.Rows.ne_str (h _ i (.refl _))
theorem CmpR.lt_str {a b : Str} : CmpR B k .Lt (.str a) (.str b) (decide (a.cps.toList < b.cps.toList)) := fun A V s v₁ v₂ Q E r i dm x y h => by
  (refine byE (x.asStr) fun t hq27 => ?_; subst hq27); (refine byE (y.asStr) fun u hq28 => ?_; subst hq28)
  exact PyProof.Rows.lt_str (h _ i (.refl _))
theorem CmpR.gt_str {a b : Str} : CmpR B k .Gt (.str a) (.str b) (decide (b.cps.toList < a.cps.toList)) := fun A V s v₁ v₂ Q E r i dm x y h => by
  (refine byE (x.asStr) fun t hq29 => ?_; subst hq29); (refine byE (y.asStr) fun u hq30 => ?_; subst hq30)
  exact PySem.P.gt_str (h _ i (.refl _))
noncomputable def TruR (B : Base) (k : Nat) (d : D) (b : Bool) : Prop := ∀ (A : Around) (V : Addr -> Prop) (s : Shared) (v : Value) (Q : Bool -> Shared -> Prop) (E : Value -> Shared -> Prop),
  Room k A -> Inv B A s -> LayB B V s.heap d v -> (∀ s', Inv B A s' -> Kp s.heap s'.heap -> Q b s') -> wpAny B.M A (truthy v) Q E s
theorem EvT.val {e : Expr} {d : D} {b : Bool} (x : EvB B k K Γ e d) (t : TruR B k d b)
    (hp : ∀ env whole, PySem.isTrue e env whole = (do let v <- whole; standAt e.pos; holding [v] (truthy v)) := by intro _ _; rfl) : EvT B k K Γ e b :=
  .mk fun A env V s Q E rm o i g h => wpAny_isTrue_value (x.run A env V s _ E rm o i g fun v s₁ i₁ k₁ l₁ => t A V s₁ v Q E rm i₁ l₁ fun s₂ i₂ k₂ => h s₂ i₂ (k₁.trans k₂)) (hp _ _)
theorem TruR.bool {b : Bool} : TruR B k (.bool b) b := fun A V s v Q E r i x h => by
  obtain rfl := x.asBool
  exact wpAny_truthy_bool (h s i (.refl _))
theorem EvT.not {e : Expr} {p : Pos} {b : Bool} (x : EvT B k K Γ e b) : EvT B k K Γ (.UnaryOp .Not e p) (!b) :=
  .mk fun A env V s Q E rm o i g h => wpAny_isTrue_Not (x.run A env V s _ E rm o i g fun s₁ i₁ k₁ => h s₁ i₁ k₁)
structure EvA (B : Base) (k : Nat) (K : Kinds) (Γ : G) (op : BoolOp) (es : List Expr) (b : Bool) : Prop where
  run : ∀ (A : Around) (env : Env) (V : Addr -> Prop) (s : Shared) (Q : Bool -> Shared -> Prop) (E : Value -> Shared -> Prop),
  Room k A -> EnvOk K env -> Inv B A s -> EnvR B V s.heap env Γ ->
  (∀ s', Inv B A s' -> Kp s.heap s'.heap -> Q b s') -> wpAny B.M A (allTrue op es env) Q E s
theorem EvT.bool {op : BoolOp} {es : List Expr} {p : Pos} {b : Bool} (x : EvA B k K Γ op es b) : EvT B k K Γ (.BoolOp op es p) b :=
  .mk fun A env V s Q E rm o i g h => wpAny_isTrue_BoolOp (x.run A env V s Q E rm o i g h)
theorem EvA.nil {op : BoolOp} : EvA B k K Γ op [] (op == .And) := .mk fun A env V s Q E rm o i g h => by
  exact wpAny_pure (h s i (.refl _))
theorem EvA.and {e : Expr} {es : List Expr} {a b : Bool} (x : EvT B k K Γ e a) (y : a = true -> EvA B k K Γ .And es b) : EvA B k K Γ .And (e :: es) (a && b) := .mk fun A env V s Q E rm o i g h => by
  refine wpAny_bind (m := PySem.isTrue e env (eval e env)) (x.run A env V s _ E rm o i g fun s₁ i₁ k₁ => ?_)
  cases a with
  | false => exact wpAny_pure (h s₁ i₁ k₁)
  | true => exact (y rfl).run A env V s₁ Q E rm o i₁ (g.kp k₁) fun s₂ i₂ k₂ => h s₂ i₂ (k₁.trans k₂)
theorem EvA.or {e : Expr} {es : List Expr} {a b : Bool} (x : EvT B k K Γ e a) (y : a = false -> EvA B k K Γ .Or es b) : EvA B k K Γ .Or (e :: es) (a || b) := .mk fun A env V s Q E rm o i g h => by
  refine wpAny_bind (m := PySem.isTrue e env (eval e env)) (x.run A env V s _ E rm o i g fun s₁ i₁ k₁ => ?_)
  cases a with
  | true => exact wpAny_pure (h s₁ i₁ k₁)
  | false => exact (y rfl).run A env V s₁ Q E rm o i₁ (g.kp k₁) fun s₂ i₂ k₂ => h s₂ i₂ (k₁.trans k₂)
theorem Ev.ite {t a b : Expr} {p : Pos} {c : Bool} {d : D} (x : EvT B k K Γ t c) (y : c = true -> Ev B k K Γ a d) (z : c = false -> Ev B k K Γ b d) : Ev B k K Γ (.IfExp t a b p) d := .mk fun A env V s Q E rm o i g h => by
  refine wpAny_IfExp (x.run A env V s _ E rm o i g fun s₁ i₁ k₁ => ?_)
  cases c with
  | true => exact (y rfl).run A env V s₁ Q E rm o i₁ (g.kp k₁) fun v s₂ i₂ k₂ l => h v s₂ i₂ (k₁.trans k₂) l
  | false => exact (z rfl).run A env V s₁ Q E rm o i₁ (g.kp k₁) fun v s₂ i₂ k₂ l => h v s₂ i₂ (k₁.trans k₂) l
structure EvL (B : Base) (k : Nat) (K : Kinds) (Γ : G) (es : List Expr) (ds : List D) : Prop where
  run : ∀ (p : Pos) (A : Around) (env : Env) (V : Addr -> Prop) (s : Shared) (Q : List Value -> Shared -> Prop) (E : Value -> Shared -> Prop),
  Room k A -> EnvOk K env -> Inv B A s -> EnvR B V s.heap env Γ ->
  (∀ vs s', Inv B A s' -> Kp s.heap s'.heap -> Lays B V s'.heap ds vs -> Q vs s') -> wpAny B.M A (spliced (backTo p (starEach es env))) Q E s
noncomputable def notStar : Expr -> Bool
  | .Starred .. => false
  | _ => true
theorem starEach_cons {e : Expr} {es : List Expr} {env : Env} (h : notStar e = true) : starEach (e :: es) env = (false, eval e env) :: starEach es env := by
  cases e <;> first | rfl | exact nomatch (show false = true from h)
theorem starEach_nil (env : Env) : starEach [] env = [] := rfl
theorem EvL.nil : EvL B k K Γ [] [] := .mk fun p A env V s Q E rm o i g h => by
  rw [starEach_nil]; exact Calls.spliced_nil (h [] s i (.refl _) rfl)
theorem EvL.cons {e : Expr} {es : List Expr} {d : D} {ds : List D} (x : Ev B k K Γ e d) (y : EvL B k K Γ es ds) (hn : notStar e = true := by rfl) : EvL B k K Γ (e :: es) (d :: ds) := .mk fun p A env V s Q E rm o i g h => by
  rw [starEach_cons hn]
  show wpAny _ _ (spliced ((false, eval e env) :: backTo p (starEach es env))) Q E s
  exact Calls.spliced_cons (x.run A env V s _ E rm o i g fun v s₁ i₁ k₁ l₁ => y.run p A env V s₁ _ E rm o i₁ (g.kp k₁) fun vs s₂ i₂ k₂ l₂ => h (v :: vs) s₂ i₂ (k₁.trans k₂) ⟨v, vs, rfl, l₁.kp k₂, l₂⟩)
end
theorem putName_cls (name : Str) (hh : Int) (key v : Value) (o : Obj) : (Obj.putName name hh key v o).cls = o.cls := by
  rw [Obj.putName_eq]
  obtain ⟨c, d, dt, sl⟩ := o
  cases dt <;> try rfl
  simp only [Obj.putNameByArray]
  split <;> rfl
theorem nsSet_frame {M : Model} {A : Around} {a : Addr} {name : Str} {v : Value} {s : Shared} {o : Obj} {es : Array DictEntry} {ep : Nat} {m : Str -> Option Value} {Q : Unit -> Shared -> Prop} {E : Value -> Shared -> Prop}
    (ho : s.heap.get? a = some o) (hd : o.data = .dict es ep) (hk : StrKeys es) (hn : s.heap.Ns a m)
    (hQ : ∀ h', h'.Ns a (fun x => if x = name then some v else m x) -> Heap.SameBut a s.heap h' -> (∃ o' es' ep', h'.get? a = some o' /\ o'.cls = o.cls /\ o'.data = .dict es' ep' /\ StrKeys es') -> Q () { s with heap := h', toks := s.toks + 1 }) :
    wpAny M A (nsSet a name v) Q E s := fun Γ p hΓ => by
  have e : ∀ (R : Unit -> Pos -> Shared -> Prop) (E' : Value -> Pos -> Shared -> Prop), Sem.wp M Γ (nsSet a name v) R E' p s ↔
      R () p { s with heap := s.heap.update a (Obj.putName name (hashStr M.w name) (.str name s.toks) v), toks := s.toks + 1 } := fun R E' => by
    simp only [nsSet, strHash, Sem.wp_bind', Sem.wp_cmd_ask, Sem.wp_pure', Sem.wp_cmd_mkText]
    rw [Sem.wp_loadPart_of M Γ E' p { s with toks := s.toks + 1 } (o := o) _ ho]
    have hany : es.any (·.refKey) = false := by
      rw [Array.any_eq_false']; intro e he; refine byEE (hk e he) fun n t h => ?_; simp [DictEntry.refKey, h]
    simp only [hd, aRefKeyMayBeTheName_eq, aRefKeyMayBeTheNameByArray, hany, Bool.and_false, Bool.false_eq_true, if_false, Sem.wp_cmd_updatePart]
    constructor
    · exact fun x => x.2
    · exact fun x => ⟨by show (s.heap.get? a).isSome = true; rw [ho]; rfl, x⟩
  rw [e]
  have n := (e (fun _ _ s' => s'.heap.Ns a (fun x => if x = name then some v else m x)) (fun _ _ _ => False)).mp (Sem.wp_nsSet M Γ _ p s hn name v _ fun h' x _ => x)
  refine hQ _ n (Heap.SameBut.update ..) ?_
  (refine byEE (n) fun o' es' hr1 => ?_; (try clear n); refine byEAAA (hr1) fun ep' ho' hd' hk' _ => ?_; (try clear hr1))
  refine ⟨o', es', ep', ho', ?_, hd', hk'⟩
  have := Heap.get?_update_self (Obj.putName name (hashStr M.w name) (.str name s.toks) v) ho (by
    have h2 := Heap.get?_some_iff.mp ho'
    have h3 : (s.heap.update a (Obj.putName name (hashStr M.w name) (.str name s.toks) v)).objs[a]? = some o' := h2.1
    have h4 : (s.heap.update a (Obj.putName name (hashStr M.w name) (.str name s.toks) v)).objs[a]? = some (Obj.putName name (hashStr M.w name) (.str name s.toks) v o) := by
      have h5 := (Heap.get?_some_iff.mp ho).1
      rw [Heap.objs_update_self, h5]; rfl
    rw [h4] at h3; cases h3; exact h2.2)
  have ho'' : (s.heap.update a (Obj.putName name (hashStr M.w name) (.str name s.toks) v)).get? a = some o' := ho'
  rw [this] at ho''
  cases ho''
  exact putName_cls ..
noncomputable def put : G -> Str -> Slot -> G
  | [], x, t => [(x, t)]
  | (y, u) :: r, x, t => if y == x then (x, t) :: r else (y, u) :: put r x t
theorem put_look : ∀ (Γ : G) (x : Str) (t : Slot) (y : Str), (put Γ x t).lookup y = if y == x then some t else Γ.lookup y
  | [], x, t, y => by
    simp only [put, List.lookup_cons, List.lookup_nil]
    cases y == x <;> rfl
  | (z, u) :: r, x, t, y => by
    unfold put
    by_cases hz : (z == x) = true
    · rw [if_pos hz]
      obtain rfl := beq_iff_eq.mp hz
      rw [List.lookup_cons, List.lookup_cons]
      cases y == z <;> rfl
    · rw [if_neg hz, List.lookup_cons, List.lookup_cons, put_look r x t y]
      cases hy : y == z with
      | false => rfl
      | true =>
        obtain rfl := beq_iff_eq.mp hy
        simp only [hz, Bool.false_eq_true, if_false]
structure Upd1 (h h' : Heap) (a : Addr) : Prop where
  same : Heap.SameBut a h h'
  old : ∃ o o', h.get? a = some o ∧ h'.get? a = some o' ∧ ((o.cls = .type "frame" ∧ o'.cls = .type "frame" ∧ ∃ es ep, o'.data = .dict es ep) ∨ (o.cls = .type "cell" ∧ o'.cls = .type "cell"))
section
variable {B : Base} {k : Nat} {K : Kinds} {Γ : G} {V₀ W : Addr -> Prop} {h h' : Heap} {env : Env} {a : Addr}
theorem Upd1.ne (u : Upd1 h h' a) {b : Addr} {o : Obj} (e : h.get? b = some o) (hc : o.cls ≠ .type "frame") (hc' : o.cls ≠ .type "cell") : b ≠ a := by
  rintro rfl
  refine byEEAA (u.old) fun o1 o' h1 h2 c => ?_
  rw [e] at h1; cases h1
  rcases c with c | c
  · exact hc c.1
  · exact hc' c.1
theorem Upd1.dom (u : Upd1 h h' a) : Dom h h' := fun b o e => by
  by_cases hb : b = a
  · subst hb; refine byEEAA (u.old) fun _ o' _ h2 _ => ?_; exact ⟨o', h2⟩
  · exact ⟨o, (u.same.2 b hb).trans e⟩
theorem Upd1.off (u : Upd1 h h' a) (hW : W a) : KpOff W h h' := fun b o nb e => .inl ((u.same.2 b fun q => nb (q ▸ hW)).trans e)
theorem Upd1.inv (u : Upd1 h h' a) (O : B.Ok) {A : Around} {s : Shared} {tk : Nat} (I : Inv B A s) (hs : s.heap = h) (hn : B.n₀ <= a) : Inv B A { s with heap := h', toks := tk } := by
  subst hs
  refine ⟨O.step _ _ I.good fun b o hb e => (u.same.2 b (fun q => hb.elim (fun hb => by subst q; omega) fun hc => u.ne e (by rw [hc]; simp) (by rw [hc]; simp) q)).trans e, I.gens, I.os, ?_⟩
  refine byEA (I.fr) fun l e hl => ?_
  refine ⟨l, e, fun env he => ?_⟩
  (refine byA (hl env he) fun hk hr2 => ?_; refine byEE (hr2) fun L o hr3 => ?_; (try clear hr2); refine byEEAAA (hr3) fun es ep h1 h2 h3 hr4 => ?_; (try clear hr3); refine byA (hr4) fun h4 h5 => ?_; (try clear hr4))
  by_cases hL : L = a
  · subst hL
    refine byEEAA (u.old) fun o1 o' h6 h7 c => ?_
    rw [h3] at h6; cases h6
    rcases c with ⟨_, c, es', ep', d⟩ | ⟨c, _⟩
    · exact ⟨hk, L, o', es', ep', h1, h2, h7, c, d⟩
    · rw [h4] at c; exact absurd c (by simp)
  · exact ⟨hk, L, o, es, ep, h1, h2, (u.same.2 L hL).trans h3, h4, h5⟩
theorem Stm.upd (st : Stm B V₀ W h env Γ) (u : Upd1 h h' a) (hW : W a) {x : Str} {v : Value} {sl : Slot}
    (hl : Looks h' env x v) (ho : ∀ y w, y ≠ x -> Looks h env y w -> Looks h' env y w)
    (hloc : ∃ o es ep, h'.get? env.locals = some o ∧ o.cls = .type "frame" ∧ o.data = .dict es ep ∧ StrKeys es)
    (hcell : ∀ y c, (y, c) ∈ env.cells -> ∃ v, CellAt h' c v)
    (hv : Holds B (fun b => V₀ b \/ W b) h sl v) (hown : ∀ a? d, sl = .own a? d -> (∃ a, v = .ref a /\ W a /\ (a? = none -> ¬ V₀ a)) /\ ∀ y a?' d' w, y ≠ x -> Γ.lookup y = some (.own a?' d') -> Looks h env y w -> w ≠ v) :
    Stm B V₀ W h' env (put Γ x sl) := by
  have keepK : ∀ b o, ¬ (V₀ b \/ W b) -> h.get? b = some o -> IsData o -> ¬ (V₀ b \/ W b) /\ h'.get? b = some o := fun b o nb e _ =>
    ⟨nb, (u.same.2 b fun q => nb (.inr (q ▸ hW))).trans e⟩
  have holds : ∀ sl v, Holds B (fun b => V₀ b \/ W b) h sl v -> Holds B (fun b => V₀ b \/ W b) h' sl v := fun sl v hh => by
    cases sl with
    | sh d => exact Lay.mono keepK hh
    | own a? d =>
      (refine byEAAA (hh) fun r e f g c => ?_; (try clear hh))
      exact ⟨r, e, f, g, c.mono keepK fun o eo i => (u.same.2 r (u.ne eo i.nf.1 i.nf.2)).trans eo⟩
  have back : ∀ y w, y ≠ x -> (∃ sl', Γ.lookup y = some sl') -> Looks h' env y w -> Looks h env y w := fun y w hy hx l => by
    (refine byE (hx) fun sl' e => ?_; (try clear hx))
    refine byEA (st.r.vars y sl' e) fun w' l' _ => ?_
    have := (ho y w' hy l').same l
    exact this ▸ l'
  refine ⟨⟨fun b hb => ?_, fun y sl' e => ?_⟩, st.hi, st.frame, ⟨st.loc.1, hloc⟩, fun y c m => ⟨(st.cells y c m).1, hcell y c m⟩, st.apart, st.kinds, fun y a? d w e l => ?_, fun y z ay dy az dz w ey ez ly lz => ?_⟩
  · refine byEA (st.r.domP b hb) fun o e n => ?_
    by_cases q : b = a
    · subst q
      refine byEEAA (u.old) fun o1 o' h1 h2 c => ?_
      refine ⟨o', h2, ?_⟩
      rcases c with ⟨_, c, _⟩ | ⟨_, c⟩
      · exact fun q => q.2.1 c
      · exact fun q => q.2.2 c
    · exact ⟨o, (u.same.2 b q).trans e, n⟩
  · rw [put_look] at e
    by_cases hy : (y == x) = true
    · rw [if_pos hy] at e
      cases e
      rw [beq_iff_eq.mp hy]
      exact ⟨v, hl, holds _ _ hv⟩
    · rw [if_neg hy] at e
      refine byEA (st.r.vars y sl' e) fun w l hh => ?_
      exact ⟨w, ho y w (fun q => hy (beq_iff_eq.mpr q)) l, holds _ _ hh⟩
  · rw [put_look] at e
    by_cases hy : (y == x) = true
    · rw [if_pos hy] at e
      obtain rfl := beq_iff_eq.mp hy
      rw [<- hl.same l]
      exact (hown a? d (Option.some.inj e)).1
    · rw [if_neg hy] at e
      exact st.own y a? d w e (back y w (fun q => hy (beq_iff_eq.mpr q)) ⟨_, e⟩ l)
  · rw [put_look] at ey ez
    by_cases hy : (y == x) = true
    · by_cases hz : (z == x) = true
      · exact (beq_iff_eq.mp hy).trans (beq_iff_eq.mp hz).symm
      · rw [if_pos hy] at ey; rw [if_neg hz] at ez
        obtain rfl := beq_iff_eq.mp hy
        have hz' : z ≠ y := fun q => hz (beq_iff_eq.mpr q)
        exact absurd (hl.same ly).symm ((hown _ _ (Option.some.inj ey)).2 z az dz w hz' ez (back z w hz' ⟨_, ez⟩ lz))
    · by_cases hz : (z == x) = true
      · rw [if_neg hy] at ey; rw [if_pos hz] at ez
        obtain rfl := beq_iff_eq.mp hz
        have hy' : y ≠ z := fun q => hy (beq_iff_eq.mpr q)
        exact absurd (hl.same lz).symm ((hown _ _ (Option.some.inj ez)).2 y ay dy w hy' ey (back y w hy' ⟨_, ey⟩ ly))
      · rw [if_neg hy] at ey; rw [if_neg hz] at ez
        exact st.apo y z ay dy az dz w ey ez (back y w (fun q => hy (beq_iff_eq.mpr q)) ⟨_, ey⟩ ly) (back z w (fun q => hz (beq_iff_eq.mpr q)) ⟨_, ez⟩ lz)
theorem store_stm' (O : B.Ok) {A : Around} {s : Shared} {x : Str} {v : Value} {sl : Slot} {Q : Unit -> Shared -> Prop} {E : Value -> Shared -> Prop} (eo : EnvOk K env) (hx : K x = some .local \/ K x = some .cell)
    (i : Inv B A s) (st : Stm B V₀ W s.heap env Γ)
    (hv : Holds B (fun b => V₀ b \/ W b) s.heap sl v) (hown : ∀ a? d, sl = .own a? d -> (∃ a, v = .ref a /\ W a /\ (a? = none -> ¬ V₀ a)) /\ ∀ y a?' d' w, y ≠ x -> Γ.lookup y = some (.own a?' d') -> Looks s.heap env y w -> w ≠ v)
    (hQ : ∀ s' a, Inv B A s' -> Upd1 s.heap s'.heap a -> W a -> Stm B V₀ W s'.heap env (put Γ x sl) -> Looks s'.heap env x v -> (∀ y w, y ≠ x -> Looks s.heap env y w -> Looks s'.heap env y w) -> Q () s') : wpAny B.M A (storeName env x v) Q E s := by
  refine byAEEEAAA (st.loc) fun wl ol es ep hol hcl hdl hkl => ?_
  have nsl : s.heap.Ns env.locals (nsFind es) := ⟨ol, es, ep, hol, hdl, hkl, fun _ => rfl⟩
  rcases hx with hx | hx
  · have hk : env.kindOf x = some .local := (eo.kind x).trans hx
    rw [storeName_local hk (by rw [eo.fn]; rfl)]
    refine nsSet_frame hol hdl hkl nsl fun h' hn hs hx => ?_
    (refine byEE (hx) fun o' es' hr5 => ?_; (try clear hx); refine byEAAA (hr5) fun ep' ho' hc' hd' hk' => ?_; (try clear hr5))
    have u : Upd1 s.heap h' env.locals := ⟨hs, ol, o', hol, ho', .inl ⟨hcl, hc'.trans hcl, es', ep', hd'⟩⟩
    have hne : ∀ y c v, (y, c) ∈ env.cells -> CellAt s.heap c v -> c ≠ env.locals := fun y c v m hx => by
      (refine byEAA (hx) fun oc h1 h2 _ => ?_; (try clear hx))
      rintro rfl
      rw [hol] at h1; cases h1
      rw [hcl] at h2; exact absurd h2 (by simp)
    refine (fun (l1 : Looks h' env x v) (l2 : ∀ y w, y ≠ x -> Looks s.heap env y w -> Looks h' env y w) => hQ _ _ (u.inv O i rfl (st.hi _ wl)) u wl (st.upd u wl (v := v) l1 l2 ?_ ?_ hv hown) l1 l2) ?_ ?_
    rotate_left 2
    · exact .inl ⟨hk, _, ⟨hn, fun o e => by rw [ho'] at e; cases e; exact fun q => q.2.1 (hc'.trans hcl)⟩, by simp⟩
    · intro y w hy l
      rcases l with ⟨e, m, am, bm⟩ | ⟨e, c, am, bm⟩
      · refine .inl ⟨e, _, ⟨hn, fun o e => by rw [ho'] at e; cases e; exact fun q => q.2.1 (hc'.trans hcl)⟩, ?_⟩
        show (if y = x then _ else _) = _
        rw [if_neg hy, <- bm]
        exact nsl.agree am.1 y
      · (refine byEAA (bm) fun oc h1 h2 h3 => ?_; (try clear bm))
        exact .inr ⟨e, c, am, oc, (hs.2 c (hne y c _ (mem_of_lookup am) ⟨oc, h1, h2, h3⟩)).trans h1, h2, h3⟩
    · exact ⟨o', es', ep', ho', hc'.trans hcl, hd', hk'⟩
    · intro y c m
      refine byAEEAA (st.cells y c m) fun _ vc oc h1 h2 h3 => ?_
      exact ⟨vc, oc, (hs.2 c (hne y c _ m ⟨oc, h1, h2, h3⟩)).trans h1, h2, h3⟩
  · have hk : env.kindOf x = some .cell := (eo.kind x).trans hx
    refine byE (st.kinds x hk) fun c hc => ?_
    refine byAEEAA (st.cells x c (mem_of_lookup hc)) fun wc vc oc h1 h2 h3 => ?_
    unfold storeName
    simp only [hk, eo.fn]
    refine wpAny_bind (wpAny_cellOf hc ?_)
    unfold cellSet
    refine wpAny_bind (wpAny_load h1 ?_)
    rw [h3]
    refine wpAny_update h1 ?_
    have g' : (s.heap.update c fun o => { o with data := .cell (some v) }).get? c = some { oc with data := .cell (some v) } := Heap.get?_update_self _ h1 rfl
    have hs : Heap.SameBut c s.heap (s.heap.update c fun o => { o with data := .cell (some v) }) := Heap.SameBut.update ..
    have u : Upd1 s.heap (s.heap.update c fun o => { o with data := .cell (some v) }) c := ⟨hs, oc, _, h1, g', .inr ⟨h2, h2⟩⟩
    have hnl : env.locals ≠ c := by
      intro q
      rw [q, h1] at hol; cases hol
      rw [h2] at hcl; exact absurd hcl (by simp)
    refine (fun (l1 : Looks _ env x v) (l2 : ∀ y w, y ≠ x -> Looks s.heap env y w -> Looks _ env y w) => hQ _ _ (u.inv O i rfl (st.hi _ wc)) u wc (st.upd u wc (v := v) l1 l2 ?_ ?_ hv hown) l1 l2) ?_ ?_
    rotate_left 2
    · exact .inr ⟨.inl hk, c, hc, _, g', h2, rfl⟩
    · intro y w hy l
      rcases l with ⟨e, m, am, bm⟩ | ⟨e, c', am, bm⟩
      · exact .inl ⟨e, m, am.kept fun o eo => .inl ((hs.2 _ hnl).trans eo), bm⟩
      · have hcc : c' ≠ c := fun q => hy (name_of_addr st.apart (mem_of_lookup am) (q ▸ mem_of_lookup hc))
        exact .inr ⟨e, c', am, bm.kept fun o eo => .inl ((hs.2 _ hcc).trans eo)⟩
    · exact ⟨ol, es, ep, (hs.2 _ hnl).trans hol, hcl, hdl, hkl⟩
    · intro y c' m
      by_cases hcc : c' = c
      · subst hcc; exact ⟨_, _, g', h2, rfl⟩
      · (refine byA (st.cells y c' m) fun _ hr6 => ?_; refine byE (hr6) fun vc' x' => ?_; (try clear hr6))
        exact ⟨vc', x'.kept fun o eo => .inl ((hs.2 _ hcc).trans eo)⟩
theorem store_stm (O : B.Ok) {A : Around} {s : Shared} {x : Str} {v : Value} {sl : Slot} {Q : Unit -> Shared -> Prop} {E : Value -> Shared -> Prop} (eo : EnvOk K env) (hx : K x = some .local \/ K x = some .cell)
    (i : Inv B A s) (st : Stm B V₀ W s.heap env Γ)
    (hv : Holds B (fun b => V₀ b \/ W b) s.heap sl v) (hown : ∀ a? d, sl = .own a? d -> (∃ a, v = .ref a /\ W a /\ (a? = none -> ¬ V₀ a)) /\ ∀ y a?' d' w, y ≠ x -> Γ.lookup y = some (.own a?' d') -> Looks s.heap env y w -> w ≠ v)
    (hQ : ∀ s', Inv B A s' -> Dom s.heap s'.heap -> Ext W s.heap W s'.heap -> Stm B V₀ W s'.heap env (put Γ x sl) -> Q () s') : wpAny B.M A (storeName env x v) Q E s :=
  store_stm' O eo hx i st hv hown fun s' a i' u wa st' _ _ => hQ s' i' u.dom ⟨fun _ q => .inl q, u.off wa⟩ st'
end
theorem keep_ext {h h' : Heap} {a : Addr} (x : Heap.ExtBut a h h') (ha : h.objs.size <= a) : ∀ b o, h.get? b = some o -> h'.get? b = some o :=
  fun b o e => x b o (Nat.ne_of_lt (Nat.lt_of_lt_of_le (Heap.lt_size e) ha)) e
theorem none_size {h : Heap} {a : Addr} (ha : h.objs.size <= a) : h.get? a = none := by
  cases e : h.get? a with
  | none => rfl
  | some o => exact absurd (Heap.lt_size e) (Nat.not_lt.mpr ha)
section
variable {B : Base} {k : Nat} {K : Kinds} {Γ : G} {V₀ W : Addr -> Prop} {h h' : Heap} {env : Env} {a : Addr}
theorem Stm.grow (st : Stm B V₀ W h env Γ) (k : Kp h h') (new : h.get? a = none) (lo : B.n₀ <= a) (there : ∃ o, h'.get? a = some o /\ ¬ IsPriv o) : Stm B V₀ (fun b => W b \/ b = a) h' env Γ := by
  have K : ∀ b o, ¬ (V₀ b \/ W b) -> h.get? b = some o -> IsData o -> ¬ (V₀ b \/ W b \/ b = a) /\ h'.get? b = some o := fun b o nb e i =>
    ⟨fun q => (by
      rcases q with q | q | q
      · exact nb (.inl q)
      · exact nb (.inr q)
      · subst q; rw [new] at e; cases e), IsData.kept i (k b o e)⟩
  have back : ∀ y w, (∃ sl', Γ.lookup y = some sl') -> Looks h' env y w -> Looks h env y w := fun y w hx l => by
    (refine byE (hx) fun sl' e => ?_; (try clear hx))
    refine byEA (st.r.vars y sl' e) fun w' l' _ => ?_
    exact (l'.kp k).same l ▸ l'
  refine ⟨⟨fun b hb => ?_, fun y sl e => ?_⟩, fun b hb => hb.elim (st.hi b) fun q => q ▸ lo, st.frame, ⟨.inl st.loc.1, ?_⟩, fun y c m => ⟨.inl (st.cells y c m).1, ?_⟩, st.apart, st.kinds, fun y a? d w e l => ?_, fun y z ay dy az dz w ey ez ly lz => ?_⟩
  · rcases hb with hb | hb | hb
    · refine byEA (st.r.domP b (.inl hb)) fun o e n => ?_; exact (k b o e).q.ex n
    · refine byEA (st.r.domP b (.inr hb)) fun o e n => ?_; exact (k b o e).q.ex n
    · exact hb ▸ there
  · refine byEA (st.r.vars y sl e) fun v l hh => ?_
    refine ⟨v, l.kp k, ?_⟩
    cases sl with
    | sh d => exact Lay.mono K hh
    | own a? d =>
      (refine byEAAA (hh) fun r e f g c => ?_; (try clear hh))
      exact ⟨r, e, f, g.imp id .inl, c.mono K fun o e i => IsData.kept i (k r o e)⟩
  · refine byAEEEAAA (st.loc) fun _ o es ep h1 h2 h3 h4 => ?_
    rcases k _ _ h1 with q | ⟨_, sl, q⟩ | ⟨q, _⟩
    · exact ⟨o, es, ep, q, h2, h3, h4⟩
    · exact ⟨_, es, ep, q, h2, h3, h4⟩
    · rw [h2] at q; cases q
  · (refine byA (st.cells y c m) fun _ hr1 => ?_; refine byE (hr1) fun v c' => ?_; (try clear hr1))
    exact ⟨v, c'.kept fun o e => k _ o e⟩
  · refine byEAA (st.own y a? d w e (back y w ⟨_, e⟩ l)) fun r e' w' nv => ?_
    exact ⟨r, e', .inl w', nv⟩
  · exact st.apo y z ay dy az dz w ey ez (back y w ⟨_, ey⟩ ly) (back z w ⟨_, ez⟩ lz)
theorem Stm.kq (st : Stm B V₀ W h env Γ) (k : Kq h h') : Stm B V₀ W h' env Γ := by
  have back : ∀ y w, (∃ sl', Γ.lookup y = some sl') -> Looks h' env y w -> Looks h env y w := fun y w hx l => by
    (refine byE (hx) fun sl' e => ?_; (try clear hx))
    refine byEA (st.r.vars y sl' e) fun w' l' _ => ?_
    exact (l'.kq k).same l ▸ l'
  refine ⟨st.r.kq k, st.hi, st.frame, ⟨st.loc.1, ?_⟩, fun y c m => ⟨(st.cells y c m).1, ?_⟩, st.apart, st.kinds, fun y a? d w e l => st.own y a? d w e (back y w ⟨_, e⟩ l), fun y z ay dy az dz w ey ez ly lz => st.apo y z ay dy az dz w ey ez (back y w ⟨_, ey⟩ ly) (back z w ⟨_, ez⟩ lz)⟩
  · refine byAEEEAAA (st.loc) fun _ o es ep h1 h2 h3 h4 => ?_
    rcases k _ _ h1 with q | ⟨_, sl, q⟩ | q
    · exact ⟨o, es, ep, q, h2, h3, h4⟩
    · exact ⟨_, es, ep, q, h2, h3, h4⟩
    · exact absurd h2 q.2.1
  · (refine byA (st.cells y c m) fun _ hr2 => ?_; refine byE (hr2) fun v c' => ?_; (try clear hr2))
    exact ⟨v, c'.keptQ fun o e => k _ o e⟩
theorem Stm.kp (st : Stm B V₀ W h env Γ) (k : Kp h h') : Stm B V₀ W h' env Γ := st.kq k.q
theorem Slot.there (st : EnvR B V₀ h env Γ) {y : Str} {sl : Slot} {a : Addr} (e : Γ.lookup y = some sl) (l : Looks h env y (.ref a)) : ∃ o, h.get? a = some o := by
  refine byEA (st.vars y sl e) fun v l' hh => ?_
  obtain rfl := l'.same l
  cases sl with
  | sh d =>
    cases d <;> simp only [Holds, Lay] at hh
    all_goals first
      | (obtain ⟨b, e, _, items, ⟨n, ho⟩, _⟩ := hh; cases e; exact ⟨_, ho⟩)
      | (obtain ⟨b, e, _, _, kvs, ⟨o, es, ep, ho, _⟩, _⟩ := hh; cases e; exact ⟨o, ho⟩)
      | (obtain ⟨t, e⟩ := hh; cases e)
      | (cases hh)
  | own a? d =>
    (refine byEAAA (hh) fun r e f g c => ?_; (try clear hh))
    cases e
    refine byEA (c.there) fun o ho _ => ?_
    exact ⟨o, ho⟩
theorem Stm.notNew (st : Stm B V₀ W h env Γ) (k : Kp h h') (new : h.get? a = none) {y : Str} {sl : Slot} {w : Value} (e : Γ.lookup y = some sl) (l : Looks h' env y w) : w ≠ .ref a := by
  rintro rfl
  refine byEA (st.r.vars y sl e) fun w' l' _ => ?_
  have := (l'.kp k).same l
  subst this
  refine byE (Slot.there st.r e l') fun o ho => ?_
  rw [new] at ho; cases ho
theorem Stm.grow2 (st : Stm B V₀ W h env Γ) (k : Kp h h') {a b : Addr} (na : h.get? a = none) (nb : h.get? b = none) (la : B.n₀ <= a) (lb : B.n₀ <= b) (ta : ∃ o, h'.get? a = some o /\ ¬ IsPriv o) (tb : ∃ o, h'.get? b = some o /\ ¬ IsPriv o) : Stm B V₀ (fun c => (W c \/ c = a) \/ c = b) h' env Γ := by
  have K : ∀ c o, ¬ (V₀ c \/ W c) -> h.get? c = some o -> IsData o -> ¬ (V₀ c \/ (W c \/ c = a) \/ c = b) /\ h'.get? c = some o := fun c o nc e i =>
    ⟨fun q => (by
      rcases q with q | (q | q) | q
      · exact nc (.inl q)
      · exact nc (.inr q)
      · subst q; rw [na] at e; cases e
      · subst q; rw [nb] at e; cases e), IsData.kept i (k c o e)⟩
  have st' := st.kp k
  refine ⟨⟨fun c hc => ?_, fun y sl e => ?_⟩, fun c q => ?_, st.frame, ⟨.inl (.inl st.loc.1), st'.loc.2⟩, fun y c m => ⟨.inl (.inl (st.cells y c m).1), (st'.cells y c m).2⟩, st.apart, st.kinds, fun y a? d w e l => ?_, st'.apo⟩
  · rcases hc with hc | (hc | hc) | hc
    · exact st'.r.domP c (.inl hc)
    · exact st'.r.domP c (.inr hc)
    · exact hc ▸ ta
    · exact hc ▸ tb
  · refine byEA (st.r.vars y sl e) fun v l hh => ?_
    refine ⟨v, l.kp k, ?_⟩
    cases sl with
    | sh d => exact Lay.mono K hh
    | own a? d =>
      (refine byEAAA (hh) fun r e f g c => ?_; (try clear hh))
      exact ⟨r, e, f, g.imp id fun z => .inl (.inl z), c.mono K fun o e i => IsData.kept i (k r o e)⟩
  · rcases q with (q | q) | q
    · exact st.hi c q
    · exact q ▸ la
    · exact q ▸ lb
  · refine byEAA (st'.own y a? d w e l) fun r e' w' nv => ?_
    exact ⟨r, e', .inl (.inl w'), nv⟩
structure Asg (B : Base) (k : Nat) (K : Kinds) (Γ : G) (t : Expr) (d : D) (Γ' : G) : Prop where
  run : ∀ (A : Around) (env : Env) (V₀ W : Addr -> Prop) (s : Shared) (v : Value) (Q : Unit -> Shared -> Prop) (E : Value -> Shared -> Prop),
  Room k A -> EnvOk K env -> Inv B A s -> Stm B V₀ W s.heap env Γ -> Lay B (fun b => V₀ b \/ W b) s.heap d v ->
  (∀ s', Inv B A s' -> Dom s.heap s'.heap -> Ext W s.heap W s'.heap -> Stm B V₀ W s'.heap env Γ' -> Q () s') -> wpAny B.M A (assign t env v) Q E s
theorem Asg.name (O : B.Ok) {x : Str} {p : Pos} {d : D} (hx : K x = some .local \/ K x = some .cell) : Asg B k K Γ (.Name x p) d (put Γ x (.sh d)) := .mk fun A env V₀ W s v Q E rm eo i st l h =>
  wpAny_assign_Name (store_stm O eo hx i st (sl := .sh d) l (fun _ _ e => nomatch e) h)
structure AsgL (B : Base) (k : Nat) (K : Kinds) (Γ : G) (ts : List Expr) (ds : List D) (Γ' : G) : Prop where
  run : ∀ (A : Around) (env : Env) (V₀ W : Addr -> Prop) (s : Shared) (vs : List Value) (Q : Unit -> Shared -> Prop) (E : Value -> Shared -> Prop),
  Room k A -> EnvOk K env -> Inv B A s -> Stm B V₀ W s.heap env Γ -> Lays B (fun b => V₀ b \/ W b) s.heap ds vs ->
  (∀ s', Inv B A s' -> Dom s.heap s'.heap -> Ext W s.heap W s'.heap -> Stm B V₀ W s'.heap env Γ' -> Q () s') -> wpAny B.M A (assignInOrder ((assignEach ts env).map (·.2)) vs) Q E s
theorem lays_ext {ds : List D} {vs : List Value} (x : Lays B (fun b => V₀ b \/ W b) h ds vs) (e : Ext W h W h') : Lays B (fun b => V₀ b \/ W b) h' ds vs :=
  x.mono (offK e.kp (fun b q => .inr q) fun b q => .inl q)
theorem lay_ext {d : D} {v : Value} (x : Lay B (fun b => V₀ b \/ W b) h d v) (e : Ext W h W h') : Lay B (fun b => V₀ b \/ W b) h' d v :=
  x.mono (offK e.kp (fun b q => .inr q) fun b q => .inl q)
theorem AsgL.nil : AsgL B k K Γ [] [] Γ := .mk fun A env V₀ W s vs Q E rm eo i st l h => by
  simp only [Lays] at l; subst l
  exact wpAny_pure (h s i (.refl _) (.refl _ _) st)
theorem assignEach_cons {e : Expr} {es : List Expr} {env : Env} (h : notStar e = true) : assignEach (e :: es) env = (false, assign e env) :: assignEach es env := by
  cases e <;> first | rfl | exact nomatch (show false = true from h)
theorem AsgL.cons {t : Expr} {ts : List Expr} {d : D} {ds : List D} {Γ₁ Γ₂ : G} (x : Asg B k K Γ t d Γ₁) (y : AsgL B k K Γ₁ ts ds Γ₂) (hn : notStar t = true := by rfl) : AsgL B k K Γ (t :: ts) (d :: ds) Γ₂ :=
  .mk fun A env V₀ W s vs Q E rm eo i st l h => by
    simp only [Lays] at l
    (refine byEEA (l) fun v r hq3 hr4 => ?_; (try clear l); subst hq3; refine byA (hr4) fun l1 l2 => ?_; (try clear hr4))
    rw [assignEach_cons hn]
    show wpAny _ _ (do holding r (assign t env v); assignInOrder ((assignEach ts env).map (·.2)) r) Q E s
    exact wpAny_bind (wpAny_holding (x.run A env V₀ W s v _ E rm eo i st l1 fun s₁ i₁ d₁ e₁ st₁ => y.run A env V₀ W s₁ r Q E rm eo i₁ st₁ (lays_ext l2 e₁) fun s₂ i₂ d₂ e₂ st₂ => h s₂ i₂ (d₁.trans d₂) (e₁.trans e₂ d₁) st₂))
noncomputable def noStars : List Expr -> Bool
  | [] => true
  | e :: r => notStar e && noStars r
theorem assignEach_len : ∀ (ts : List Expr) (env : Env), noStars ts = true -> (assignEach ts env).length = ts.length /\ (assignEach ts env).findIdx? (·.1) = none
  | [], env, _ => ⟨rfl, rfl⟩
  | e :: r, env, h => by
    simp only [noStars, Bool.and_eq_true] at h
    rw [assignEach_cons h.1]
    refine byA (assignEach_len r env h.2) fun a b => ?_
    exact ⟨by simp [a], by simp [List.findIdx?_cons, b]⟩
theorem draw_list {prog : Program} {w : World} {A : Around} {E : Value -> Shared -> Prop} {it l : Addr} {items : Array Value} (hne : l ≠ it) : ∀ (n i : Nat) (s : Shared) (Q : List Value -> Shared -> Prop), s.heap.IsListIter it l i -> s.heap.IsList l items -> i + n <= items.size ->
    (∀ h', h'.IsListIter it l (i + n) -> Heap.SameBut it s.heap h' -> Q ((items.toList.drop i).take n) { s with heap := h' }) -> wpAny (model prog w) A (draw (.ref it) n) Q E s
  | 0, i, s, Q, hit, _, _, hQ => by
    show wpAny _ _ (pure []) Q E s
    exact wpAny_pure (by simpa using hQ s.heap hit (Heap.SameBut.refl ..))
  | n + 1, i, s, Q, hit, ht, hle, hQ => by
    have hlt : i < items.size := by omega
    show wpAny _ _ (pyNext (.ref it) >>= _) Q E s
    refine wpAny_bind (wpAny_pyNext_list_item hit ht (x := items[i]) (by simp [hlt]) fun h₁ hit₁ hs₁ => ?_)
    refine wpAny_bind (wpAny_holding (draw_list hne n (i + 1) _ _ hit₁ (ht.extBut hs₁.extBut hne) (by omega) fun h₂ hit₂ hs₂ => wpAny_pure ?_))
    have hd : items.toList.drop i = items[i] :: items.toList.drop (i + 1) := by simp [List.drop_eq_getElem_cons, hlt]
    have := hQ h₂ (by rw [show i + (n + 1) = i + 1 + n by omega]; exact hit₂) (hs₁.trans hs₂)
    rw [hd, List.take_succ_cons] at this
    exact this
theorem unpackItems_list {prog : Program} {w : World} {A : Around} {E : Value -> Shared -> Prop} {s : Shared} {t : Addr} {items : Array Value} {Q : List Value -> Shared -> Prop} (hh : A.handled = none) (ht : s.heap.IsList t items)
    (hQ : ∀ h', Heap.ExtBut s.heap.objs.size s.heap h' -> Q items.toList { s with heap := h' }) : wpAny (model prog w) A (unpackItems (.ref t) items.size none) Q E s := by
  have hlt : t ≠ s.heap.objs.size := by (refine byEA (ht) fun o ho _ => ?_; (try clear ht)); exact Nat.ne_of_lt (Heap.lt_size ho)
  unfold unpackItems
  refine wpAny_bind ?_
  unfold notIterableAtAll
  refine wpAny_bind (wpAny_specialOf ht.typeIs F.slot_list_iter.lookup ?_)
  refine wpAny_pure ?_
  simp only [Bool.false_eq_true, if_false]
  refine wpAny_bind (wpAny_holding (wpAny_pyIter_list ht ?_))
  refine wpAny_bind (wpAny_holding (draw_list hlt items.size 0 _ _ ⟨_, Heap.get?_push_size _ rfl, rfl, rfl⟩ (ht.push _) (by omega) fun h₁ hit₁ hs₁ => ?_))
  have hall : List.take items.size (List.drop 0 items.toList) = items.toList := by
    rw [List.drop_zero]; exact List.take_of_length_le (by simp)
  rw [hall]
  rw [if_neg (by simp)]
  have ht₁ : h₁.IsList t items := (ht.push _).extBut hs₁.extBut hlt
  refine wpAny_bind (wpAny_holding (wpAny_pyNext_list_end hh hit₁ ht₁ (by simp) fun h₂ he₂ => ?_))
  simp only [Option.isSome_none, Bool.false_eq_true, if_false]
  exact wpAny_pure (hQ h₂ fun b o hb e => he₂ b o hb (hs₁.extBut b o hb (Heap.get?_push_of_some _ e)))
theorem Asg.tup_of {ts : List Expr} {ds : List D} {d : D} {n : Nat} {p : Pos} {Γ' : G} (x : AsgL B (k + 1) K Γ ts ds Γ') (hl : ts.length = ds.length) (hs : noStars ts = true) (hd : d = .tup ds \/ d = .list ds) (O : B.Ok) : Asg B (k + 1) K Γ (.Tuple ts n p) d Γ' :=
  .mk fun A env V₀ W s v Q E rm eo i st l h => by
    rw [arm_assign_Tuple]
    refine wpAny_bind (wpAny_standAt ?_)
    refine byA (assignEach_len ts env hs) fun e1 e2 => ?_
    unfold unpack
    have go : ∀ (items : Array Value) (h' : Heap), Lays B (fun b => V₀ b \/ W b) s.heap ds items.toList -> Heap.ExtBut s.heap.objs.size s.heap h' -> wpAny B.M A (assignInOrder ((assignEach ts env).map (·.2)) items.toList) Q E { s with heap := h' } := fun items h' ls hx => by
      have kk : Kp s.heap h' := .of (keep_ext hx (Nat.le_refl _))
      exact x.run A env V₀ W { s with heap := h' } _ Q E rm eo (i.keep O (keep_ext hx (Nat.le_refl _))) (st.kp kk) (ls.kp kk) fun s₂ i₂ d₂ e₂ st₂ => h s₂ i₂ (kk.dom.trans d₂) ((Ext.of_kp kk).trans e₂ kk.dom) st₂
    rcases hd with rfl | rfl
    · simp only [Lay] at l
      (refine byEA (l) fun a hq5 hr6 => ?_; (try clear l); subst hq5; refine byA (hr6) fun _ hr7 => ?_; (try clear hr6); refine byEA (hr7) fun items it ls => ?_; (try clear hr7))
      have hz : (assignEach ts env).length = items.size := by rw [e1, hl, <- ls.length]; simp
      rw [hz, e2]
      exact wpAny_bind (wpAny_holding (wpAny_unpackItems_tuple (rm.handled (Nat.succ_pos _)) it.isTuple fun h' hx => go items h' ls hx))
    · simp only [Lay] at l
      (refine byEA (l) fun a hq8 hr9 => ?_; (try clear l); subst hq8; refine byA (hr9) fun _ hr10 => ?_; (try clear hr9); refine byEA (hr10) fun items it ls => ?_; (try clear hr10))
      have hz : (assignEach ts env).length = items.size := by rw [e1, hl, <- ls.length]; simp
      rw [hz, e2]
      exact wpAny_bind (wpAny_holding (unpackItems_list (rm.handled (Nat.succ_pos _)) it.isList fun h' hx => go items h' ls hx))
theorem Asg.tup (O : B.Ok) {ts : List Expr} {ds : List D} {n : Nat} {p : Pos} {Γ' : G} (x : AsgL B (k + 1) K Γ ts ds Γ') (hl : ts.length = ds.length := by rfl) (hs : noStars ts = true := by rfl) : Asg B (k + 1) K Γ (.Tuple ts n p) (.tup ds) Γ' := .tup_of x hl hs (.inl rfl) O
end
section
variable {B : Base} {k : Nat} {K : Kinds} {Γ Γ' : G} {V₀ W : Addr -> Prop} {h h' : Heap} {env : Env} {a : Addr}
theorem Stm.share (st : Stm B V₀ W h env Γ) {x : Str} {d : D} (hx : Γ.lookup x = some (.own none d)) : ∃ W', (∀ b, W' b -> W b) /\ Stm B V₀ W' h env (put Γ x (.sh d)) := by
  (refine byEA (st.r.vars x _ hx) fun v l hr1 => ?_; refine byEA (hr1) fun r hq2 hr3 => ?_; (try clear hr1); subst hq2; refine byAA (hr3) fun _ _ c => ?_; (try clear hr3))
  refine byEAA (st.own x none d _ hx l) fun r' e' wr nv => ?_
  cases e'
  refine byEA (c.there) fun o ho io => ?_
  have nf := io.nf
  have keepK : ∀ b o, ¬ (V₀ b \/ W b) -> h.get? b = some o -> IsData o -> ¬ (V₀ b \/ (W b /\ b ≠ r)) /\ h.get? b = some o := fun b o nb e _ =>
    ⟨fun q => nb (q.imp id fun z => z.1), e⟩
  have ex : ∀ (y : Str) (sl : Slot) (w : Value), (put Γ x (.sh d)).lookup y = some sl -> y ≠ x -> Γ.lookup y = some sl := fun y sl w e hy => by
    rw [put_look] at e
    rwa [if_neg (fun q => hy (beq_iff_eq.mp q))] at e
  refine ⟨fun b => W b /\ b ≠ r, fun b q => q.1, ⟨fun b hb => st.r.domP b (hb.imp id fun z => z.1), fun y sl e => ?_⟩, fun b q => st.hi b q.1, st.frame, ⟨⟨st.loc.1, ?_⟩, st.loc.2⟩, fun y c' m => ⟨⟨(st.cells y c' m).1, ?_⟩, (st.cells y c' m).2⟩, st.apart, st.kinds, fun y a? d' w e ly => ?_, fun y z ay dy az dz w ey ez ly lz => ?_⟩
  · by_cases hy : y = x
    · subst hy
      rw [put_look, if_pos (by simp)] at e
      cases e
      refine ⟨_, l, ?_⟩
      exact Content.lay (c.mono keepK fun o e _ => e) fun q => q.elim (nv rfl) fun z => z.2 rfl
    · refine byEA (st.r.vars y sl (ex y sl (.none) e hy)) fun w lw hh => ?_
      refine ⟨w, lw, ?_⟩
      cases sl with
      | sh d' => exact Lay.mono keepK hh
      | own a? d' =>
        (refine byEAAA (hh) fun q e' f g c' => ?_; (try clear hh))
        refine ⟨q, e', f, g.imp id fun z => ⟨z, ?_⟩, c'.mono keepK fun o e _ => e⟩
        rintro rfl
        subst e'
        exact hy (st.apo y x _ _ _ _ _ (ex y _ (.none) e hy) hx lw l)
  · rintro q
    (refine byA (st.loc) fun _ hr4 => ?_; refine byEE (hr4) fun o' es hr5 => ?_; (try clear hr4); refine byEAA (hr5) fun ep h1 h2 _ => ?_; (try clear hr5))
    rw [q, ho] at h1; cases h1
    exact nf.1 h2
  · rintro rfl
    refine byAEEAA (st.cells y c' m) fun _ v' o' h1 h2 _ => ?_
    rw [ho] at h1; cases h1
    exact nf.2 h2
  · have hy : y ≠ x := by
      rintro rfl
      rw [put_look, if_pos (by simp)] at e
      cases e
    refine byEAA (st.own y a? d' w (ex y _ w e hy) ly) fun q e' wq nq => ?_
    refine ⟨q, e', ⟨wq, ?_⟩, nq⟩
    rintro rfl
    subst e'
    exact hy (st.apo y x _ _ _ _ _ (ex y _ (.none) e hy) hx ly l)
  · have hy : y ≠ x := by
      rintro rfl
      rw [put_look, if_pos (by simp)] at ey
      cases ey
    have hz : z ≠ x := by
      rintro rfl
      rw [put_look, if_pos (by simp)] at ez
      cases ez
    exact st.apo y z ay dy az dz w (ex y _ w ey hy) (ex z _ w ez hz) ly lz
theorem Ex.share {ss : List Stmt} {o : Out} {x : Str} {d : D} (y : Ex B k K (put Γ x (.sh d)) ss o Γ') (hx : Γ.lookup x = some (.own none d)) : Ex B k K Γ ss o Γ' := .mk fun A env V₀ W s Q E rm eo i st h => by
  refine byEA (st.share hx) fun W' hw st' => ?_
  exact y.run A env V₀ W' s Q E rm eo i st' fun fl s' W'' i' dm ex st'' ou => h fl s' W'' i' dm ⟨fun b q => (ex.new b q).imp (hw b) id, fun b o nb e => ex.kp b o (fun q => nb (hw b q)) e⟩ st'' ou
theorem Ex1.assign {t value : Expr} {p : Pos} {d : D} (x : Ev B k K Γ value d) (y : Asg B k K Γ t d Γ') (hn : notStar t = true := by rfl)
    (hsw : ∀ env, swapsWithSole [t] value p.line env = pure false := by intro _; rfl) (hst : ∀ env, swappedStores [t] value env = pure none := by intro _; rfl) : Ex1 B k K Γ (.Assign [t] value p) .next Γ' := .mk fun A env V₀ W s Q E rm eo i st h => by
  refine wpAny_Assign_stores (x.run A env _ s _ E rm eo i st.r fun v s₁ i₁ k₁ l₁ => ?_) (hsw env) (hst env)
  rw [assignEach_cons hn]
  exact y.run A env V₀ W s₁ v _ E rm eo i₁ (st.kp k₁) l₁ fun s₂ i₂ d₂ e₂ st₂ => h .next s₂ W i₂ (k₁.dom.trans d₂) ((Ext.of_kp k₁).trans e₂ k₁.dom) st₂ rfl
theorem Ex1.assign2 {t t' value : Expr} {p : Pos} {d : D} {Γ₁ : G} (x : Ev B k K Γ value d) (y : Asg B k K Γ t d Γ₁) (z : Asg B k K Γ₁ t' d Γ') (hn : notStar t = true := by rfl) (hn' : notStar t' = true := by rfl)
    (hsw : ∀ env, swapsWithSole [t, t'] value p.line env = pure false := by intro _; rfl) (hst : ∀ env, swappedStores [t, t'] value env = pure none := by intro _; rfl) : Ex1 B k K Γ (.Assign [t, t'] value p) .next Γ' := .mk fun A env V₀ W s Q E rm eo i st h => by
  refine wpAny_Assign_stores (x.run A env _ s _ E rm eo i st.r fun v s₁ i₁ k₁ l₁ => ?_) (hsw env) (hst env)
  rw [assignEach_cons hn, assignEach_cons hn']
  show wpAny _ _ (do holding [v] (PySem.assign t env v); PySem.assign t' env v) _ E s₁
  exact wpAny_bind (wpAny_holding (y.run A env V₀ W s₁ v _ E rm eo i₁ (st.kp k₁) l₁ fun s₂ i₂ d₂ e₂ st₂ =>
    z.run A env V₀ W s₂ v _ E rm eo i₂ st₂ (lay_ext l₁ e₂) fun s₃ i₃ d₃ e₃ st₃ => h .next s₃ W i₃ ((k₁.dom.trans d₂).trans d₃) (((Ext.of_kp k₁).trans e₂ k₁.dom).trans e₃ (k₁.dom.trans d₂)) st₃ rfl))
theorem Stm.drop (st : Stm B V₀ W h env Γ) {C : Addr} (wC : W C) (nv : ¬ V₀ C) (hs : Heap.SameBut C h h') (hl : env.locals ≠ C) (hc : ∀ y c, (y, c) ∈ env.cells -> c ≠ C) (ho : ∀ y a? d v, Γ.lookup y = some (.own a? d) -> Looks h env y v -> v ≠ .ref C) :
    Stm B V₀ (fun b => W b /\ b ≠ C) h' env Γ := by
  have keepK : ∀ b o, ¬ (V₀ b \/ W b) -> h.get? b = some o -> IsData o -> ¬ (V₀ b \/ (W b /\ b ≠ C)) /\ h'.get? b = some o := fun b o nb e _ => ⟨fun q => nb (q.imp id fun z => z.1), (hs.2 b fun q => nb (.inr (q ▸ wC))).trans e⟩
  have fw : ∀ y w, Looks h env y w -> Looks h' env y w := fun y w l => by
    rcases l with ⟨e, m, am, bm⟩ | ⟨e, c, am, bm⟩
    · exact .inl ⟨e, m, am.kept fun o eo => .inl ((hs.2 _ hl).trans eo), bm⟩
    · exact .inr ⟨e, c, am, bm.kept fun o eo => .inl ((hs.2 _ (hc y c (mem_of_lookup am))).trans eo)⟩
  have back : ∀ y w, (∃ sl', Γ.lookup y = some sl') -> Looks h' env y w -> Looks h env y w := fun y w hx l => by
    (refine byE (hx) fun sl' e => ?_; (try clear hx))
    refine byEA (st.r.vars y sl' e) fun w' l' _ => ?_
    exact (fw y w' l').same l ▸ l'
  refine ⟨⟨fun b hb => ?_, fun y sl e => ?_⟩, fun b q => st.hi b q.1, st.frame, ⟨⟨st.loc.1, hl⟩, ?_⟩, fun y c m => ⟨⟨(st.cells y c m).1, hc y c m⟩, ?_⟩, st.apart, st.kinds, fun y a? d w e l => ?_, fun y z ay dy az dz w ey ez ly lz => st.apo y z ay dy az dz w ey ez (back y w ⟨_, ey⟩ ly) (back z w ⟨_, ez⟩ lz)⟩
  · have : b ≠ C := hb.elim (fun q => by rintro rfl; exact nv q) fun q => q.2
    refine byEA (st.r.domP b (hb.imp id fun z => z.1)) fun o e n => ?_
    exact ⟨o, (hs.2 b this).trans e, n⟩
  · refine byEA (st.r.vars y sl e) fun v l hh => ?_
    refine ⟨v, fw y v l, ?_⟩
    cases sl with
    | sh d => exact Lay.mono keepK hh
    | own a? d =>
      (refine byEAAA (hh) fun r e' f g c => ?_; (try clear hh))
      have hr : r ≠ C := by rintro rfl; exact ho y a? d v e l e'
      exact ⟨r, e', f, g.imp id fun z => ⟨z, hr⟩, c.mono keepK fun o eo _ => (hs.2 r hr).trans eo⟩
  · (refine byA (st.loc) fun _ hr6 => ?_; refine byEE (hr6) fun o es hr7 => ?_; (try clear hr6); refine byEA (hr7) fun ep h1 h2 => ?_; (try clear hr7))
    exact ⟨o, es, ep, (hs.2 _ hl).trans h1, h2⟩
  · (refine byA (st.cells y c m) fun _ hr8 => ?_; refine byE (hr8) fun v c' => ?_; (try clear hr8))
    exact ⟨v, c'.kept fun o eo => .inl ((hs.2 _ (hc y c m)).trans eo)⟩
  · have l' := back y w ⟨_, e⟩ l
    refine byEAA (st.own y a? d w e l') fun r e' wr nr => ?_
    exact ⟨r, e', ⟨wr, by rintro rfl; exact ho y a? d w e l' e'⟩, nr⟩
theorem store_new (O : B.Ok) {A : Around} {s : Shared} {x : Str} {d : D} {a : Addr} {h₀ : Heap} {Q : Unit -> Shared -> Prop} {E : Value -> Shared -> Prop} (eo : EnvOk K env) (hx : K x = some .local \/ K x = some .cell)
    (i : Inv B A s) (st : Stm B V₀ W h₀ env Γ) (kk : Kp h₀ s.heap) (new : h₀.get? a = none) (lo : B.n₀ <= a) (c : Content B (fun b => (V₀ b \/ W b) \/ b = a) s.heap d a)
    (hQ : ∀ s', Inv B A s' -> Dom h₀ s'.heap -> Ext W h₀ (fun b => W b \/ b = a) s'.heap -> Stm B V₀ (fun b => W b \/ b = a) s'.heap env (put Γ x (.own none d)) -> Q () s') : wpAny B.M A (storeName env x (.ref a)) Q E s := by
  refine byEA (c.there) fun o ho io => ?_
  have st' := st.grow kk new lo ⟨o, ho, fun q => q.1 io⟩
  have e0 : Ext W h₀ (fun b => W b \/ b = a) s.heap := ⟨fun b (q : W b \/ b = a) => q.imp id fun (z : b = a) => z.symm ▸ new, kk.off _⟩
  have hh : Holds B (fun b => V₀ b \/ (W b \/ b = a)) s.heap (.own none d) (.ref a) := ⟨a, rfl, (fun _ e => nomatch e), .inr (.inr rfl), c.shrink fun b (q : V₀ b \/ W b \/ b = a) => (by
    rcases q with q | q | q
    · exact .inl (.inl q)
    · exact .inl (.inr q)
    · exact .inr q)⟩
  refine store_stm O eo hx i st' (sl := .own none d) hh (fun a? d' e => ?_) fun s' i' dm ex st'' => hQ s' i' (kk.dom.trans dm) (e0.trans ex kk.dom) st''
  · refine ⟨⟨a, rfl, .inr rfl, fun _ q => ?_⟩, fun y a?' d'' w hy ey ly => st.notNew kk new ey ly⟩
    refine byE (st.r.dom a (.inl q)) fun o' e' => ?_
    rw [new] at e'; cases e'
theorem Ex1.assignF (O : B.Ok) {x : Str} {p' p : Pos} {value : Expr} {d : D} (y : EvF B k K Γ value d) (hx : K x = some .local \/ K x = some .cell)
    (hsw : ∀ env, swapsWith value (some (.Name x p')) p.line env = pure false := by intro _; rfl) : Ex1 B k K Γ (.Assign [.Name x p'] value p) .next (put Γ x (.own none d)) := .mk fun A env V₀ W s Q E rm eo i st h =>
  wpAny_Assign_Name (y.run A env _ s _ E rm eo i st.r fun a s₁ i₁ k₁ new lo c => store_new O eo hx i₁ st k₁ new lo c fun s₂ i₂ d₂ e₂ st₂ => h .next s₂ _ i₂ d₂ e₂ st₂ rfl) (hsw env)
theorem Ex1.ife {t : Expr} {b e : List Stmt} {p : Pos} {c : Bool} {o : Out} (x : EvT B k K Γ t c) (y : c = true -> Ex B k K Γ b o Γ') (z : c = false -> Ex B k K Γ e o Γ') : Ex1 B k K Γ (.If t b e p) o Γ' := .mk fun A env V₀ W s Q E rm eo i st h => by
  refine wpAny_If (x.run A env _ s _ E rm eo i st.r fun s₁ i₁ k₁ => ?_)
  have go : ∀ ss, Ex B k K Γ ss o Γ' -> wpAny B.M A (execs ss env) Q E s₁ := fun ss w => w.run A env V₀ W s₁ Q E rm eo i₁ (st.kp k₁) fun fl s₂ W₂ i₂ d₂ e₂ st₂ ou => h fl s₂ W₂ i₂ (k₁.dom.trans d₂) ((Ext.of_kp k₁).trans e₂ k₁.dom) st₂ ou
  cases c with
  | true => rw [if_pos rfl]; exact go _ (y rfl)
  | false => rw [if_neg (by simp)]; exact go _ (z rfl)
theorem Ex1.ret {e : Expr} {p : Pos} {d : D} (x : Ev B k K Γ e d) : Ex1 B k K Γ (.Return (some e) p) (.ret d) Γ := .mk fun A env V₀ W s Q E rm eo i st h =>
  wpAny_Return_some (x.run A env _ s _ E rm eo i st.r fun v s₁ i₁ k₁ l₁ => h (.ret v) s₁ W i₁ k₁.dom (.of_kp k₁) (st.kp k₁) ⟨v, rfl, l₁⟩)
theorem Ex1.brk {p : Pos} : Ex1 B k K Γ (.Break p) .brk Γ := .mk fun A env V₀ W s Q E rm eo i st h => by
  show wpAny _ _ (do standAt p; pure .brk) Q E s
  exact wpAny_bind (wpAny_standAt (wpAny_pure (h .brk s W i (.refl _) (.refl _ _) st rfl)))
theorem Ex1.exprM {e : Expr} {p : Pos} {d : D} (x : EvM B k K Γ e d Γ') (hsw : ∀ env, swapsWith e none p.line env = pure false := by intro _; rfl) : Ex1 B k K Γ (.Expr e p) .next Γ' := .mk fun A env V₀ W s Q E rm eo i st h =>
  wpAny_Expr_any (x.run A env V₀ W s _ E rm eo i st fun v s₁ W₁ i₁ d₁ e₁ st₁ l₁ => h .next s₁ W₁ i₁ d₁ e₁ st₁ rfl) (by unfold interactive; rw [eo.fn]; rfl) (hsw env)
noncomputable def InpR (B : Base) (k : Nat) (op : Operator) (d₁ d₂ d : D) : Prop := ∀ (A : Around) (V : Addr -> Prop) (s : Shared) (v₁ v₂ : Value) (Q : Value -> Shared -> Prop) (E : Value -> Shared -> Prop),
  Room k A -> Inv B A s -> (∀ b, V b -> ∃ o, s.heap.get? b = some o) -> LayB B V s.heap d₁ v₁ -> LayB B V s.heap d₂ v₂ -> (∀ v s', Inv B A s' -> Kp s.heap s'.heap -> Lay B V s'.heap d v -> Q v s') -> wpAny B.M A (inplaceOp op v₁ v₂) Q E s
theorem Ex1.aug (O : B.Ok) {x : Str} {p' p : Pos} {op : Operator} {e : Expr} {d d' d'' : D} (hx : Γ.lookup x = some (.sh d)) (y : EvB B k K Γ e d') (z : InpR B k op d d' d'') (hk : K x = some .local \/ K x = some .cell)
    (h2 : (x == ("__classdict__" : Str)) = false := by decide) : Ex1 B k K Γ (.AugAssign (.Name x p') op e p) .next (put Γ x (.sh d'')) := .mk fun A env V₀ W s Q E rm eo i st h => by
  refine byEA (st.r.vars x _ hx) fun v l hv => ?_
  refine wpAny_AugAssign_Name (loadName_looks eo l h2 (y.run A env _ s _ E rm eo i st.r fun v' s₁ i₁ k₁ l₁ => z A _ s₁ v v' _ E rm i₁ (st.r.kp k₁).dom (.inl (Lay.kp hv k₁)) l₁ fun v'' s₂ i₂ k₂ l₂ => ?_))
  exact store_stm O eo hk i₂ ((st.kp k₁).kp k₂) (sl := .sh d'') l₂ (fun _ _ e => nomatch e) fun s₃ i₃ d₃ e₃ st₃ => h .next s₃ W i₃ ((k₁.trans k₂).dom.trans d₃) ((Ext.of_kp (k₁.trans k₂)).trans e₃ (k₁.trans k₂).dom) st₃ rfl
structure Iter (B : Base) (A : Around) (I : Addr) (fp bp : Addr -> Prop) (tup : Bool) (St : (Addr -> Prop) -> List D -> Heap -> Prop) (StO : (Addr -> Prop) -> List D -> Value -> Heap -> Prop) : Prop where
  frame : ∀ V V' ds h h', St V ds h -> (∀ b, V' b -> V b \/ h.get? b = none) -> (∀ b o, h.get? b = some o -> (fp b \/ bp b \/ (¬ V b /\ IsData o)) -> h'.get? b = some o) -> St V' ds h'
  item : ∀ V d ds (s : Shared) (Q : Option Value -> Shared -> Prop) (E : Value -> Shared -> Prop), Inv B A s -> (∀ b, V b -> ∃ o, s.heap.get? b = some o) -> St V (d :: ds) s.heap ->
    (∀ v s', Inv B A s' -> StO V ds v s'.heap -> (∀ b o, s.heap.get? b = some o -> ¬ fp b -> s'.heap.get? b = some o) -> Lay B (fun b => V b \/ fp b) s'.heap d v -> Q (some v) s') -> wpAny B.M A (pyNext (.ref I)) Q E s
  done : ∀ V (s : Shared) (Q : Option Value -> Shared -> Prop) (E : Value -> Shared -> Prop), Inv B A s -> St V [] s.heap ->
    (∀ s', Inv B A s' -> (∀ b o, s.heap.get? b = some o -> ¬ fp b -> s'.heap.get? b = some o) -> Q none s') -> wpAny B.M A (pyNext (.ref I)) Q E s
  self : ∀ V ds (s : Shared) (Q : Value -> Shared -> Prop) (E : Value -> Shared -> Prop), St V ds s.heap -> Q (.ref I) s -> wpAny B.M A (pyIter (.ref I)) Q E s
  own : ∀ V ds ts n p (v : Value) (s : Shared) (Q : Unit -> Shared -> Prop) (E : Value -> Shared -> Prop), Inv B A s -> StO V ds v s.heap ->
    (∀ s', Inv B A s' -> St V ds s'.heap -> (∀ b o, s.heap.get? b = some o -> ¬ fp b -> s'.heap.get? b = some o) -> Q () s') -> wpAny B.M A (letOwnedTupleGo (.Tuple ts n p) (.ref I) v) Q E s
  plain : tup = false -> ∀ V ds v h, StO V ds v h -> St V ds h
  there : ∀ V ds h b, St V ds h -> fp b -> ∃ o, h.get? b = some o /\ IsPriv o /\ o.cls ≠ .none
  thereO : ∀ V ds v h b, StO V ds v h -> fp b -> ∃ o, h.get? b = some o /\ IsPriv o /\ o.cls ≠ .none
  data : ∀ V ds h b, St V ds h -> bp b -> ∃ o, h.get? b = some o /\ IsData o
structure EvI (B : Base) (k : Nat) (K : Kinds) (Γ : G) (e : Expr) (tup : Bool) (ds : List D) : Prop where
  run : ∀ (A : Around) (env : Env) (V : Addr -> Prop) (s : Shared) (Q : Value -> Shared -> Prop) (E : Value -> Shared -> Prop),
  Room k A -> EnvOk K env -> Inv B A s -> EnvR B V s.heap env Γ ->
  (∀ I fp bp St StO s', Inv B A s' -> Kp s.heap s'.heap -> Iter B A I fp bp tup St StO -> St V ds s'.heap -> (∀ b, fp b -> s.heap.get? b = none) -> (∀ b, bp b -> False) -> Q (.ref I) s') ->
  wpAny B.M A (eval e env) (fun x s₁ => wpAny B.M A (pyIter x) Q E s₁) E s
structure EvIB (B : Base) (k : Nat) (K : Kinds) (Γ : G) (e : Expr) (ds : List D) : Prop where
  run : ∀ (A : Around) (env : Env) (V : Addr -> Prop) (s : Shared) (Q : Value -> Shared -> Prop) (E : Value -> Shared -> Prop),
  Room k A -> EnvOk K env -> Inv B A s -> EnvR B V s.heap env Γ ->
  (∀ I fp bp St StO s', Inv B A s' -> Kp s.heap s'.heap -> Iter B A I fp bp false St StO -> St V ds s'.heap -> (∀ b, fp b -> s.heap.get? b = none) -> Q (.ref I) s') ->
  wpAny B.M A (eval e env) (fun x s₁ => wpAny B.M A (pyIter x) Q E s₁) E s
theorem EvI.b {e : Expr} {ds : List D} (x : EvI B k K Γ e false ds) : EvIB B k K Γ e ds := .mk fun A env V s Q E rm o i g h =>
  x.run A env V s Q E rm o i g fun I fp bp St StO s' i' k' it st nf nb => h I fp bp St StO s' i' k' it st nf
noncomputable def tgtOk (tup : Bool) : Expr -> Bool
  | .Tuple .. => true
  | .Name .. => !tup
  | _ => false
inductive Loop (B : Base) (k : Nat) (K : Kinds) (t : Expr) (body : List Stmt) : G -> List D -> Out -> G -> Prop
  | done {X : G} : Loop B k K t body X [] .next X
  | step {X X₁ X₂ X₃ : G} {d ds o} : Asg B k K X t d X₁ -> Ex B k K X₁ body .next X₂ -> Loop B k K t body X₂ ds o X₃ -> Loop B k K t body X (d :: ds) o X₃
  | brk {X X₁ X₂ : G} {d ds} : Asg B k K X t d X₁ -> Ex B k K X₁ body .brk X₂ -> Loop B k K t body X (d :: ds) .next X₂
  | ret {X X₁ X₂ : G} {d ds r} : Asg B k K X t d X₁ -> Ex B k K X₁ body (.ret r) X₂ -> Loop B k K t body X (d :: ds) (.ret r) X₂
end
section
variable {B : Base} {k : Nat} {K : Kinds} {Γ Γ' : G} {V₀ W : Addr -> Prop} {h h' : Heap} {env : Env} {a : Addr}
theorem kq_off {fp : Addr -> Prop} (x : ∀ b o, h.get? b = some o -> ¬ fp b -> h'.get? b = some o) (y : ∀ b, fp b -> ∃ o, h.get? b = some o /\ IsPriv o /\ o.cls ≠ .none) : Kq h h' := fun b o e => by
  by_cases f : fp b
  · refine byEAA (y b f) fun o' e' p _ => ?_
    rw [e] at e'; cases e'
    exact .inr (.inr p)
  · exact .inl (x b o e f)
theorem dom_off {fp : Addr -> Prop} (x : ∀ b o, h.get? b = some o -> ¬ fp b -> h'.get? b = some o) (y : ∀ b, fp b -> ∃ o, h'.get? b = some o) : Dom h h' := fun b o e => by
  by_cases f : fp b
  · exact y b f
  · exact ⟨o, x b o e f⟩
theorem ext_off {fp W' : Addr -> Prop} {h₀ : Heap} (x : Ext W h₀ W' h) (y : ∀ b o, h.get? b = some o -> ¬ fp b -> h'.get? b = some o) (nf : ∀ b, fp b -> h₀.get? b = none) : Ext W h₀ W' h' :=
  ⟨x.new, KpOff.trans x.kp (W' := fp) (fun b o nb e => .inl (y b o e nb)) fun b o f e => by rw [nf b f] at e; cases e⟩
theorem Loop.use {t : Expr} {body : List Stmt} {ds : List D} {o : Out} (h : Loop B k K t body Γ ds o Γ') {c : Prop} (h0 : ds = [] -> o = .next -> Γ = Γ' -> c)
    (h1 : ∀ X₁ X₂ d ds₁ ob, ds = d :: ds₁ -> Asg B k K Γ t d X₁ -> Ex B k K X₁ body ob X₂ -> (ob = .next /\ Loop B k K t body X₂ ds₁ o Γ' \/ (o = .next /\ ob = .brk \/ ∃ r, ob = .ret r /\ o = .ret r) /\ X₂ = Γ') -> c) : c := by
  cases h with
  | done => exact h0 rfl rfl rfl
  | @step _ X₁ X₂ _ d ds₁ _ a b l => exact h1 X₁ X₂ d ds₁ _ rfl a b (.inl ⟨rfl, l⟩)
  | @brk _ X₁ _ d ds₁ a b => exact h1 X₁ _ d ds₁ _ rfl a b (.inr ⟨.inl ⟨rfl, rfl⟩, rfl⟩)
  | @ret _ X₁ _ d ds₁ r a b => exact h1 X₁ _ d ds₁ _ rfl a b (.inr ⟨.inr ⟨r, rfl, rfl⟩, rfl⟩)
theorem byEEEAAAAAAA.{u0, u1, u2} {α0 : Sort u0} {α1 : Sort u1} {α2 : Sort u2} {p3 : α0 -> α1 -> α2 -> Prop} {p4 : α0 -> α1 -> α2 -> Prop} {p5 : α0 -> α1 -> α2 -> Prop} {p6 : α0 -> α1 -> α2 -> Prop} {p7 : α0 -> α1 -> α2 -> Prop} {p8 : α0 -> α1 -> α2 -> Prop} {p9 : α0 -> α1 -> α2 -> Prop} {p10 : α0 -> α1 -> α2 -> Prop} {c : Prop} (h : ∃ x0, ∃ x1, ∃ x2, (p3 x0 x1 x2) /\ (p4 x0 x1 x2) /\ (p5 x0 x1 x2) /\ (p6 x0 x1 x2) /\ (p7 x0 x1 x2) /\ (p8 x0 x1 x2) /\ (p9 x0 x1 x2) /\ (p10 x0 x1 x2)) (k : ∀ x0 : α0, ∀ x1 : α1, ∀ x2 : α2, (p3 x0 x1 x2) -> (p4 x0 x1 x2) -> (p5 x0 x1 x2) -> (p6 x0 x1 x2) -> (p7 x0 x1 x2) -> (p8 x0 x1 x2) -> (p9 x0 x1 x2) -> (p10 x0 x1 x2) -> c) : c := h.elim fun a0 h0 => h0.elim fun a1 h1 => h1.elim fun a2 h2 => k a0 a1 a2 h2.1 h2.2.1 h2.2.2.1 h2.2.2.2.1 h2.2.2.2.2.1 h2.2.2.2.2.2.1 h2.2.2.2.2.2.2.1 h2.2.2.2.2.2.2.2
theorem Ex1.for_ {t iter : Expr} {body : List Stmt} {p : Pos} {tup : Bool} {ds : List D} {o : Out} (x : EvI B k K Γ iter tup ds) (y : Loop B k K t body Γ ds o Γ') (ht : tgtOk tup t = true := by rfl)
    (hs : ∀ env v, foldedSetIterable iter env v = pure v := by intro _ _; rfl) : Ex1 B k K Γ (.For t iter body [] p) o Γ' := .mk fun A env V₀ W s Q E rm eo i st h => by
  refine wpAny_For (x.run A env _ s _ E rm eo i st.r fun I fp bp St StO s₁ i₁ k₁ it hst nf nb => ?_) (hs env)
  have nW : ∀ b, fp b -> ¬ W b := fun b f q => by
    refine byE (st.r.dom b (.inr q)) fun o e => ?_
    rw [nf b f] at e; cases e
  have own : ∀ {V : Addr -> Prop} (d : D) (ds₁ : List D) (v : Value) (s : Shared) (Q : Unit -> Shared -> Prop) (E : Value -> Shared -> Prop), Inv B A s -> StO V ds₁ v s.heap ->
      (∀ s', Inv B A s' -> St V ds₁ s'.heap -> (∀ b o, s.heap.get? b = some o -> ¬ fp b -> s'.heap.get? b = some o) -> Q () s') -> wpAny B.M A (letOwnedTupleGo t (.ref I) v) Q E s := by
    intro V d ds₁ v s Q E i so hQ
    cases t with
    | Name id p' =>
      have ht' : tup = false := by cases tup with
        | false => rfl
        | true => cases ht
      exact wpAny_pure (hQ s i (it.plain ht' _ _ _ _ so) fun _ _ e _ => e)
    | Tuple elts n p' => exact it.own V ds₁ _ _ _ v s Q E i so hQ
    | _ => cases ht
  refine codeAny_forLoop_any (fun n s' => ∃ Δ ds' W', n = ds'.length /\ Inv B A s' /\ Dom s.heap s'.heap /\ Ext W s.heap W' s'.heap /\ Stm B V₀ W' s'.heap env Δ /\ Loop B k K t body Δ ds' o Γ' /\ St (fun b => V₀ b \/ W' b) ds' s'.heap /\ ∀ b, fp b -> ¬ W' b) ?_ ds.length
    ⟨Γ, ds, W, rfl, i₁, k₁.dom, .of_kp k₁, st.kp k₁, y, hst, nW⟩
  intro n s' hq
  refine byEEEAAAAAAA hq fun Δ ds' W' hn i' dm' ex' st' lp hst' nW' => ?_
  clear hq
  refine lp.use (fun e1 e2 e3 => ?_) fun X₁ X₂ d ds₁ ob e1 as bd hor => ?_
  · refine it.done _ s' _ _ i' (e1 ▸ hst') fun s₂ i₂ off => wpAny_execs_nil ?_
    have kq := kq_off off (fun b f => it.there _ _ _ b hst' f)
    have dm2 : Dom s.heap s₂.heap := fun b o e => by
      refine byE (dm' b o e) fun o' e' => ?_
      exact ⟨o', off b o' e' fun f => by rw [nf b f] at e; cases e⟩
    exact h .next s₂ W' i₂ dm2 (ext_off ex' off nf) (e3 ▸ st'.kq kq) (e2 ▸ rfl)
  · have hst' := e1 ▸ hst'
    refine it.item _ d ds₁ s' _ _ i' st'.r.dom hst' fun v s₂ i₂ so₂ off₂ l₂ => ?_
    have dm₂ : Dom s'.heap s₂.heap := dom_off off₂ fun b f => let ⟨o, e, _⟩ := it.thereO _ _ _ _ b so₂ f; ⟨o, e⟩
    have kq₂ := kq_off off₂ (fun b f => it.there _ _ _ b hst' f)
    refine own d ds₁ v s₂ _ _ i₂ so₂ fun s₃ i₃ st₃ off₃ => ?_
    have dm₃ : Dom s₂.heap s₃.heap := dom_off off₃ fun b f => let ⟨o, e, _⟩ := it.there _ _ _ b st₃ f; ⟨o, e⟩
    have kq₃ := kq_off off₃ (fun b f => it.thereO _ _ _ _ b so₂ f)
    have sm₃ := (st'.kq kq₂).kq kq₃
    have ex₃ := ext_off (ext_off ex' off₂ nf) off₃ nf
    have l₃ : Lay B (fun b => V₀ b \/ W' b) s₃.heap d v := (l₂.mono (V' := fun b => V₀ b \/ W' b) fun b o nb e _ => ⟨fun q => nb (.inl q), off₃ b o e fun f => nb (.inr f)⟩)
    refine as.run A env V₀ W' s₃ v _ _ rm eo i₃ sm₃ l₃ fun s₄ i₄ dm₄ ex₄ st₄ => ?_
    refine bd.run A env V₀ W' s₄ _ _ rm eo i₄ st₄ fun fl s₅ W₅ i₅ dm₅ ex₅ st₅ ou => ?_
    have e35 := ex₄.trans ex₅ dm₄
    refine hor.elim (fun q => ?_) fun q => ?_
    · refine byA q fun q lp' => ?_
      have ou : fl = .next := by rw [q] at ou; exact ou
      rw [ou]
      refine ⟨ds₁.length, by rw [hn, e1]; exact Nat.lt_succ_self _, X₂, ds₁, W₅, rfl, i₅, (((dm'.trans dm₂).trans dm₃).trans dm₄).trans dm₅, ex₃.trans e35 ((dm'.trans dm₂).trans dm₃), st₅, lp', ?_, fun b f q => ?_⟩
      · refine it.frame _ _ _ _ _ st₃ (fun b q => ?_) fun b o e q => ?_
        · rcases q with q | q
          · exact .inl (.inl q)
          · exact (e35.new b q).imp .inr id
        · rcases q with q | q | q
          · refine byEAA (it.there _ _ _ b st₃ q) fun o' e' p c => ?_
            rw [e] at e'; cases e'
            exact (e35.kp b o (nW' b q) e).exact p.2.1 c
          · exact (nb b q).elim
          · exact q.2.kept (e35.kp b o (fun w => q.1 (.inr w)) e)
      · rcases e35.new b q with q | q
        · exact nW' b f q
        · refine byEA (it.there _ _ _ b st₃ f) fun o' e' _ => ?_
          rw [q] at e'; cases e'
    · have hh := fun fl ou => h fl s₅ W₅ i₅ ((((dm'.trans dm₂).trans dm₃).trans dm₄).trans dm₅) (ex₃.trans e35 ((dm'.trans dm₂).trans dm₃)) (q.2 ▸ st₅) ou
      refine q.1.elim (fun q => ?_) fun q => q.elim fun r q => ?_
      · have ou : fl = .brk := by rw [q.2] at ou; exact ou
        rw [ou]
        exact hh .next (by rw [q.1]; rfl)
      · have ou : OutIs B (fun b => V₀ b \/ W₅ b) s₅.heap (.ret r) fl := by rw [q.1] at ou; exact ou
        have hh := hh fl (by rw [q.2]; exact ou)
        refine byEA ou fun v' hq1 _ => ?_
        rw [hq1] at hh ⊢
        exact hh
end
noncomputable def relK (K : Kinds) (sc : Scope) : Kinds := fun y => (sc.names.map fun (n, k) => if (k == .free && K n == some .cell) then (n, NameKind.cell) else (n, k)).lookup y
theorem relabel_ok {K : Kinds} {env : Env} {sc : Scope} (eo : EnvOk K env) (y : Str) : (relabel sc env).names.lookup y = relK K sc y := by
  unfold relabel relK
  congr 1
  refine List.map_congr_left fun x _ => ?_
  obtain ⟨n, k⟩ := x
  have h1 : env.kindOf n = K n := eo.kind n
  simp only [eo.fn, h1]
  simp
structure CStm (B : Base) (V Wc : Addr -> Prop) (h : Heap) (env : Env) (x : Str) (Γ : G) : Prop where
  r : EnvR B V h env Γ
  sub : ∀ b, Wc b -> V b /\ B.n₀ <= b
  loc : Wc env.locals ∧ ∃ o es ep, h.get? env.locals = some o ∧ o.cls = .type "dict" ∧ o.data = .dict es ep ∧ StrKeys es
  tgt : env.kindOf x = some .local \/ (env.kindOf x = some .cell /\ ∃ c, env.cells.lookup x = some c /\ Wc c /\ ∃ v, CellAt h c v)
  apart : ∀ c, env.cells.lookup x = some c -> env.kindOf x = some .cell -> ∀ y, y ≠ x -> env.cells.lookup y ≠ some c
  nown : ∀ y a? d v, Γ.lookup y = some (.own a? d) -> Looks h env y v -> ∃ r, v = .ref r /\ ¬ Wc r
section
variable {B : Base} {k : Nat} {K : Kinds} {Γ Γ' : G} {V Wc : Addr -> Prop} {h h' : Heap} {env : Env} {x : Str}
theorem CStm.kq (st : CStm B V Wc h env x Γ) (k : Kq h h') (hl : ∀ o, h.get? env.locals = some o -> h'.get? env.locals = some o) : CStm B V Wc h' env x Γ := by
  refine ⟨st.r.kq k, st.sub, ⟨st.loc.1, ?_⟩, ?_, st.apart, fun y a? d v e l => ?_⟩
  · (refine byA (st.loc) fun _ hr1 => ?_; refine byEE (hr1) fun o es hr2 => ?_; (try clear hr1); refine byEA (hr2) fun ep h1 h2 => ?_; (try clear hr2))
    exact ⟨o, es, ep, hl o h1, h2⟩
  · rcases st.tgt with t | ⟨t, c, h1, h2, v, h3⟩
    · exact .inl t
    · exact .inr ⟨t, c, h1, h2, v, h3.keptQ fun o e => k _ o e⟩
  · refine byEA (st.r.vars y _ e) fun v' l' _ => ?_
    exact st.nown y a? d v e ((l'.kq k).same l ▸ l')
theorem CStm.less (st : CStm B V Wc h env x Γ') (hs : ∀ y sl, Γ.lookup y = some sl -> Γ'.lookup y = some sl) : CStm B V Wc h env x Γ :=
  ⟨⟨st.r.domP, fun y sl e => st.r.vars y sl (hs y sl e)⟩, st.sub, st.loc, st.tgt, st.apart, fun y a? d v e l => st.nown y a? d v (hs y _ e) l⟩
theorem CStm.app (st : CStm B V Wc h env x Γ) {a : Addr} (hs : Heap.SameBut a h h') (wa : Wc a) (ho : ∃ o, h.get? a = some o ∧ o.cls = .type "list") (ht : ∃ o', h'.get? a = some o' ∧ o'.cls = .type "list") : CStm B V Wc h' env x Γ := by
  (refine byEA (ho) fun oa hoa hca => ?_; (try clear ho))
  (refine byA (st.loc) fun wl hr3 => ?_; refine byEE (hr3) fun ol es hr4 => ?_; (try clear hr3); refine byEAA (hr4) fun ep hol hcl hdl => ?_; (try clear hr4))
  have hla : env.locals ≠ a := by
    rintro q
    rw [q, hoa] at hol; cases hol
    rw [hca] at hcl; exact absurd hcl (by simp)
  have keep : ∀ b o, ¬ Wc b -> h.get? b = some o -> h'.get? b = some o := fun b o nb e => (hs.2 b fun q => nb (q ▸ wa)).trans e
  have keepK : ∀ b o, ¬ V b -> h.get? b = some o -> IsData o -> ¬ V b /\ h'.get? b = some o := fun b o nb e _ => ⟨nb, keep b o (fun q => nb (st.sub b q).1) e⟩
  have cell : ∀ c v, CellAt h c v -> CellAt h' c v := fun c v hx => by (refine byEAA (hx) fun o h1 h2 h3 => ?_; (try clear hx)); exact ⟨o, (hs.2 c (by rintro rfl; rw [hoa] at h1; cases h1; rw [hca] at h2; exact absurd h2 (by simp))).trans h1, h2, h3⟩
  have fw : ∀ y w, Looks h env y w -> Looks h' env y w := fun y w l => by
    rcases l with ⟨e, m, am, bm⟩ | ⟨e, c, am, bm⟩
    · exact .inl ⟨e, m, am.kept fun o eo => .inl ((hs.2 _ hla).trans eo), bm⟩
    · exact .inr ⟨e, c, am, cell c _ bm⟩
  refine ⟨⟨fun b hb => ?_, fun y sl e => ?_⟩, st.sub, ⟨wl, ol, es, ep, (hs.2 _ hla).trans hol, hcl, hdl⟩, ?_, st.apart, fun y a? d v e l => ?_⟩
  · by_cases q : b = a
    · subst q; (refine byEA (ht) fun o' h1 h2 => ?_; (try clear ht)); exact ⟨o', h1, fun q => q.1 (.inl h2)⟩
    · refine byEA (st.r.domP b hb) fun o e n => ?_; exact ⟨o, (hs.2 b q).trans e, n⟩
  · refine byEA (st.r.vars y sl e) fun w l hh => ?_
    refine ⟨w, fw y w l, ?_⟩
    cases sl with
    | sh d' => exact Lay.mono keepK hh
    | own a? d' =>
      (refine byEAAA (hh) fun r e' f g c => ?_; (try clear hh))
      refine byEA (st.nown y a? d' w e l) fun r' e'' nr => ?_
      subst e'; cases e''
      exact ⟨r, rfl, f, g, c.mono keepK fun o eo _ => keep r o nr eo⟩
  · rcases st.tgt with t | ⟨t, c, h1, h2, v, h3⟩
    · exact .inl t
    · exact .inr ⟨t, c, h1, h2, v, cell c v h3⟩
  · refine byEA (st.r.vars y _ e) fun w l' _ => ?_
    exact st.nown y a? d v e ((fw y w l').same l ▸ l')
theorem cstore (O : B.Ok) {A : Around} {s : Shared} {v : Value} {d : D} {Q : Unit -> Shared -> Prop} {E : Value -> Shared -> Prop} (eo : EnvOk K env)
    (i : Inv B A s) (st : CStm B V Wc s.heap env x Γ) (hv : Lay B V s.heap d v)
    (hQ : ∀ s', Inv B A s' -> (∀ b o, ¬ Wc b -> s.heap.get? b = some o -> s'.heap.get? b = some o) -> (∀ b o, b ≠ env.locals -> env.cells.lookup x ≠ some b -> s.heap.get? b = some o -> s'.heap.get? b = some o) -> CStm B V Wc s'.heap env x (put Γ x (.sh d)) -> Q () s') : wpAny B.M A (storeName env x v) Q E s := by
  refine byAEEEAAA (st.loc) fun wl ol es ep hol hcl hdl hkl => ?_
  have nsl : s.heap.Ns env.locals (nsFind es) := ⟨ol, es, ep, hol, hdl, hkl, fun _ => rfl⟩
  have main : ∀ (h' : Heap) (tk : Tok) (a : Addr), (a = env.locals ∨ env.cells.lookup x = some a) → Wc a → Heap.SameBut a s.heap h' → (∃ o', h'.get? a = some o' ∧ ¬ IsPriv o') → (∀ o, s.heap.get? a = some o → o.cls ≠ .type "frame" ∧ o.cls ≠ .type "code") →
      (∃ o es ep, h'.get? env.locals = some o ∧ o.cls = .type "dict" ∧ o.data = .dict es ep ∧ StrKeys es) → Looks h' env x v → (∀ y w, y ≠ x → Looks s.heap env y w → Looks h' env y w) →
      (env.kindOf x = some .local \/ (env.kindOf x = some .cell /\ ∃ c, env.cells.lookup x = some c /\ Wc c /\ ∃ v, CellAt h' c v)) -> Q () { s with heap := h', toks := tk } := by
    intro h' tk a ha wa hs ht hf hloc hl ho htg
    have dm : Dom s.heap h' := fun b o e => by
      by_cases hb : b = a
      · subst hb; exact ht.imp fun _ z => z.1
      · exact ⟨o, (hs.2 b hb).trans e⟩
    have domP' : ∀ b, V b -> ∃ o, h'.get? b = some o /\ ¬ IsPriv o := fun b hb => by
      by_cases q : b = a
      · subst q; exact ht
      · refine byEA (st.r.domP b hb) fun o e n => ?_; exact ⟨o, (hs.2 b q).trans e, n⟩
    have keep : ∀ b o, ¬ Wc b -> s.heap.get? b = some o -> h'.get? b = some o := fun b o nb e => (hs.2 b fun q => nb (q ▸ wa)).trans e
    have keepK : ∀ b o, ¬ V b -> s.heap.get? b = some o -> IsData o -> ¬ V b /\ h'.get? b = some o := fun b o nb e _ => ⟨nb, keep b o (fun q => nb (st.sub b q).1) e⟩
    have back : ∀ y w, y ≠ x -> (∃ sl', Γ.lookup y = some sl') -> Looks h' env y w -> Looks s.heap env y w := fun y w hy hx l => by
      (refine byE (hx) fun sl' e => ?_; (try clear hx))
      refine byEA (st.r.vars y sl' e) fun w' l' _ => ?_
      exact (ho y w' hy l').same l ▸ l'
    refine hQ _ ?_ keep (fun b o n1 n2 e => (hs.2 b (by rintro rfl; exact ha.elim n1 n2)).trans e) ⟨⟨fun b hb => domP' b hb, fun y sl e => ?_⟩, st.sub, ⟨wl, hloc⟩, htg, st.apart, fun y a? d' w e l => ?_⟩
    · refine ⟨O.step _ _ i.good fun b o hb e => (hs.2 b (by rintro rfl; exact hb.elim (fun hb => absurd (st.sub b wa).2 (Nat.not_le.mpr hb)) (hf o e).2)).trans e, i.gens, i.os, ?_⟩
      refine byEA (i.fr) fun l e hl' => ?_
      refine ⟨l, e, fun env' he => ?_⟩
      (refine byA (hl' env' he) fun hk hr5 => ?_; refine byEE (hr5) fun L o hr6 => ?_; (try clear hr5); refine byEEAAA (hr6) fun es ep h1 h2 h3 hr7 => ?_; (try clear hr6); refine byA (hr7) fun h4 h5 => ?_; (try clear hr7))
      exact ⟨hk, L, o, es, ep, h1, h2, (hs.2 L (by rintro rfl; exact (hf o h3).1 h4)).trans h3, h4, h5⟩
    · rw [put_look] at e
      by_cases hy : (y == x) = true
      · rw [if_pos hy] at e; cases e
        rw [beq_iff_eq.mp hy]
        exact ⟨v, hl, Lay.mono keepK hv⟩
      · rw [if_neg hy] at e
        refine byEA (st.r.vars y sl e) fun w l hh => ?_
        refine ⟨w, ho y w (fun q => hy (beq_iff_eq.mpr q)) l, ?_⟩
        cases sl with
        | sh d' => exact Lay.mono keepK hh
        | own a? d' =>
          (refine byEAAA (hh) fun r e' f g c => ?_; (try clear hh))
          refine byEA (st.nown y a? d' w e l) fun r' e'' nr => ?_
          subst e'; cases e''
          exact ⟨r, rfl, f, g, c.mono keepK fun o eo _ => keep r o nr eo⟩
    · rw [put_look] at e
      by_cases hy : (y == x) = true
      · rw [if_pos hy] at e; cases e
      · rw [if_neg hy] at e
        exact st.nown y a? d' w e (back y w (fun q => hy (beq_iff_eq.mpr q)) ⟨_, e⟩ l)
  rcases st.tgt with hk | ⟨hk, c, hc, wc, vc, oc, h1, h2, h3⟩
  · rw [storeName_local hk (by rw [eo.fn]; rfl)]
    refine nsSet_frame hol hdl hkl nsl fun h' hn hs hx => ?_
    (refine byEE (hx) fun o' es' hr8 => ?_; (try clear hx); refine byEAAA (hr8) fun ep' ho' hc' hd' hk' => ?_; (try clear hr8))
    have np : ∀ o, h'.get? env.locals = some o -> ¬ IsPriv o := fun o e => by
      rw [ho'] at e; cases e
      exact fun q => q.1 (.inr (.inr (.inl (hc'.trans hcl))))
    refine main h' _ env.locals (.inl rfl) wl hs ⟨_, ho', np _ ho'⟩ (fun o e => by rw [hol] at e; cases e; rw [hcl]; simp) ⟨o', es', ep', ho', hc'.trans hcl, hd', hk'⟩ (.inl ⟨hk, _, ⟨hn, np⟩, by simp⟩) (fun y w hy l => ?_) (.inl hk)
    rcases l with ⟨e, m, am, bm⟩ | ⟨e, c, am, bm⟩
    · refine .inl ⟨e, _, ⟨hn, np⟩, ?_⟩
      show (if y = x then _ else _) = _
      rw [if_neg hy, <- bm]
      exact nsl.agree am.1 y
    · refine .inr ⟨e, c, am, bm.kept fun o eo => .inl ((hs.2 c ?_).trans eo)⟩
      rintro rfl
      (refine byEAA (bm) fun oc h1 h2 _ => ?_; (try clear bm))
      rw [hol] at h1; cases h1
      rw [hcl] at h2; exact absurd h2 (by simp)
  · unfold storeName
    simp only [hk, eo.fn]
    refine wpAny_bind (wpAny_cellOf hc ?_)
    unfold cellSet
    refine wpAny_bind (wpAny_load h1 ?_)
    rw [h3]
    refine wpAny_update h1 ?_
    have g' : (s.heap.update c fun o => { o with data := .cell (some v) }).get? c = some { oc with data := .cell (some v) } := Heap.get?_update_self _ h1 rfl
    have hs : Heap.SameBut c s.heap (s.heap.update c fun o => { o with data := .cell (some v) }) := Heap.SameBut.update ..
    have hnl : env.locals ≠ c := by
      intro q
      rw [q, h1] at hol; cases hol
      rw [h2] at hcl; exact absurd hcl (by simp)
    refine main _ _ c (.inr hc) wc hs ⟨_, g', fun q => q.2.2 h2⟩ (fun o e => by rw [h1] at e; cases e; rw [h2]; simp) ⟨ol, es, ep, (hs.2 _ hnl).trans hol, hcl, hdl, hkl⟩ (.inr ⟨.inl hk, c, hc, _, g', h2, rfl⟩) (fun y w hy l => ?_) (.inr ⟨hk, c, hc, wc, _, _, g', h2, rfl⟩)
    rcases l with ⟨e, m, am, bm⟩ | ⟨e, c', am, bm⟩
    · exact .inl ⟨e, m, am.kept fun o eo => .inl ((hs.2 _ hnl).trans eo), bm⟩
    · have hcc : c' ≠ c := fun q => st.apart c hc hk y hy (q ▸ am)
      exact .inr ⟨e, c', am, bm.kept fun o eo => .inl ((hs.2 _ hcc).trans eo)⟩
structure EvIfs (B : Base) (k : Nat) (K : Kinds) (Γ : G) (ifs : List Expr) (b : Bool) : Prop where
  run : ∀ (A : Around) (env : Env) (V : Addr -> Prop) (s : Shared) (Q : Bool -> Shared -> Prop) (E : Value -> Shared -> Prop),
  Room k A -> EnvOk K env -> Inv B A s -> EnvR B V s.heap env Γ ->
  (∀ s', Inv B A s' -> Kp s.heap s'.heap -> Q b s') -> wpAny B.M A (forIn ifs true fun c r => if r = true then do let ok <- PySem.isTrue c env (eval c env); pure (ForInStep.yield ok) else pure (ForInStep.yield r)) Q E s
theorem EvIfs.nil : EvIfs B k K Γ [] true := .mk fun A env V s Q E rm o i g h => by
  rw [List.forIn_nil]; exact wpAny_pure (h s i (.refl _))
theorem EvIfs.one {c : Expr} {b : Bool} (x : EvT B k K Γ c b) : EvIfs B k K Γ [c] b := .mk fun A env V s Q E rm o i g h => by
  rw [List.forIn_cons, if_pos rfl]
  refine wpAny_bind (wpAny_bind (x.run A env V s _ E rm o i g fun s₁ i₁ k₁ => wpAny_pure ?_))
  show wpAny _ _ (forIn [] b _) Q E s₁
  rw [List.forIn_nil]
  exact wpAny_pure (h s₁ i₁ k₁)
end
inductive CompR (B : Base) (k : Nat) (K : Kinds) (Γc : G) (x : Str) (ifs : List Expr) (elt : Expr) : List D -> List D -> Prop
  | nil : CompR B k K Γc x ifs elt [] []
  | skip {d ds out} : EvIfs B k K (put Γc x (.sh d)) ifs false -> CompR B k K Γc x ifs elt ds out -> CompR B k K Γc x ifs elt (d :: ds) out
  | take {d ds v out} : EvIfs B k K (put Γc x (.sh d)) ifs true -> Ev B k K (put Γc x (.sh d)) elt v -> CompR B k K Γc x ifs elt ds out -> CompR B k K Γc x ifs elt (d :: ds) (v :: out)
theorem put_none {Γ : G} {x : Str} {t : Slot} (h : Γ.lookup x = none) {y : Str} {sl : Slot} (e : Γ.lookup y = some sl) : (put Γ x t).lookup y = some sl := by
  rw [put_look]
  by_cases q : (y == x) = true
  · rw [beq_iff_eq.mp q, h] at e; cases e
  · rw [if_neg q]; exact e
section
variable {B : Base} {k : Nat} {K : Kinds} {Γ Γ' : G} {V Wc : Addr -> Prop} {h h' : Heap} {env : Env} {x : Str}
theorem CompR.use {Γc : G} {x : Str} {ifs : List Expr} {elt : Expr} {ds out : List D} (h : CompR B k K Γc x ifs elt ds out) {c : Prop} (h0 : ds = [] -> out = [] -> c)
    (h1 : ∀ d ds₁, ds = d :: ds₁ -> EvIfs B k K (put Γc x (.sh d)) ifs false -> CompR B k K Γc x ifs elt ds₁ out -> c)
    (h2 : ∀ d ds₁ v out₁, ds = d :: ds₁ -> out = v :: out₁ -> EvIfs B k K (put Γc x (.sh d)) ifs true -> Ev B k K (put Γc x (.sh d)) elt v -> CompR B k K Γc x ifs elt ds₁ out₁ -> c) : c := by
  cases h with
  | nil => exact h0 rfl rfl
  | @skip d ds₁ _ a b => exact h1 d ds₁ rfl a b
  | @take d ds₁ v out₁ a b e => exact h2 d ds₁ v out₁ rfl rfl a b e
noncomputable def KpX (h₀ : Heap) (Wc fp : Addr -> Prop) (h' : Heap) : Prop := ∀ b o, h₀.get? b = some o -> ¬ Wc b -> ¬ fp b -> Kept h' b o
noncomputable def AccOk (V : Addr → Prop) (D₀ : Addr) (Acc : Heap → Prop) : Prop := ∀ h h', Acc h → (∀ b o, ¬ V b → h.get? b = some o → IsData o → h'.get? b = some o) → (∀ o, o.cls ≠ .type "frame" → o.cls ≠ .none → h.get? D₀ = some o → h'.get? D₀ = some o) → Acc h'
structure CS (B : Base) (V Wc fp : Addr -> Prop) (h₀ : Heap) (env : Env) (x : Str) (St : (Addr -> Prop) -> List D -> Heap -> Prop) (Acc : Heap -> Prop) (Γ : G) (ds : List D) (h : Heap) : Prop where
  kp : KpX h₀ Wc fp h
  st : CStm B V Wc h env x Γ
  hst : St V ds h
  acc : Acc h
structure CFix (B : Base) (A : Around) (I D₀ : Addr) (fp bp Wc : Addr -> Prop) (env : Env) (x : Str) (K : Kinds) (Γ : G) (St : (Addr -> Prop) -> List D -> Heap -> Prop) (StO : (Addr -> Prop) -> List D -> Value -> Heap -> Prop) : Prop where
  O : B.Ok
  eo : EnvOk K env
  it : Iter B A I fp bp false St StO
  wD : Wc D₀
  hDl : D₀ ≠ env.locals
  hDc : env.cells.lookup x ≠ some D₀
  hf : ∀ b, fp b -> ¬ Wc b
  hb : ∀ b, bp b -> ¬ Wc b
  hx0 : Γ.lookup x = none
theorem KpX.step {h₀ h₁ h₂ : Heap} {Wc fp : Addr -> Prop} (q : KpX h₀ Wc fp h₁) (y : KpOff (fun b => Wc b \/ fp b) h₁ h₂) : KpX h₀ Wc fp h₂ := fun b o e nw nf =>
  KpOff.trans (W := fun b => Wc b \/ fp b) (W' := fun b => Wc b \/ fp b) (fun b o nb e => q b o e (fun q => nb (.inl q)) fun q => nb (.inr q)) y (fun b o q _ => q) b o (fun q => q.elim nw nf) e
section
variable {A : Around} {I D₀ : Addr} {fp bp : Addr -> Prop} {St : (Addr -> Prop) -> List D -> Heap -> Prop} {StO : (Addr -> Prop) -> List D -> Value -> Heap -> Prop} {Acc Acc' : Heap -> Prop} {h₀ : Heap} {s s' : Shared} {d : D} {ds : List D} {v : Value} {E : Value -> Shared -> Prop}
theorem CS.turn (F : CFix B A I D₀ fp bp Wc env x K Γ St StO) (hA : AccOk V D₀ Acc) (i : Inv B A s) (q : CS B V Wc fp h₀ env x St Acc Γ (d :: ds) s.heap) {Q : Option Value -> Shared -> Prop}
    (hQ : ∀ v s₂, Inv B A s₂ -> CS B V Wc fp h₀ env x St Acc Γ ds s₂.heap -> Lay B V s₂.heap d v -> Q (some v) s₂) : wpAny B.M A (pyNext (.ref I)) Q E s := by
  refine F.it.item _ d ds s _ _ i q.st.r.dom q.hst fun v s₂ i₂ so₂ off₂ l₂ => ?_
  have kq₂ := kq_off off₂ (fun b f => F.it.there _ _ _ b q.hst f)
  exact hQ v s₂ i₂ ⟨q.kp.step fun b o nb e => .inl (off₂ b o e fun f => nb (.inr f)), q.st.kq kq₂ fun o e => off₂ _ o e fun f => F.hf _ f q.st.loc.1, F.it.plain rfl _ _ _ _ so₂,
    hA _ _ q.acc (fun b o _ e io => io.keptQ (kq₂ b o e)) fun o _ _ e => off₂ _ _ e fun f => F.hf _ f F.wD⟩ (l₂.mono fun b o nb e _ => ⟨fun q => nb (.inl q), e⟩)
theorem CS.over (F : CFix B A I D₀ fp bp Wc env x K Γ St StO) (hA : AccOk V D₀ Acc) (i : Inv B A s) (q : CS B V Wc fp h₀ env x St Acc Γ [] s.heap) {Q : Option Value -> Shared -> Prop}
    (hQ : ∀ s₂, Inv B A s₂ -> KpX h₀ Wc fp s₂.heap -> CStm B V Wc s₂.heap env x Γ -> Acc s₂.heap -> Q none s₂) : wpAny B.M A (pyNext (.ref I)) Q E s := by
  refine F.it.done _ s _ _ i q.hst fun s₂ i₂ off₂ => ?_
  have kq₂ := kq_off off₂ (fun b f => F.it.there _ _ _ b q.hst f)
  exact hQ s₂ i₂ (q.kp.step fun b o nb e => .inl (off₂ b o e fun f => nb (.inr f))) (q.st.kq kq₂ fun o e => off₂ _ o e fun f => F.hf _ f q.st.loc.1)
    (hA _ _ q.acc (fun b o _ e io => io.keptQ (kq₂ b o e)) fun o _ _ e => off₂ _ _ e fun f => F.hf _ f F.wD)
theorem CS.store {px : Pos} (F : CFix B A I D₀ fp bp Wc env x K Γ St StO) (hA : AccOk V D₀ Acc) (i : Inv B A s) (q : CS B V Wc fp h₀ env x St Acc Γ ds s.heap) (l : Lay B V s.heap d v) {Q : Unit -> Shared -> Prop}
    (hQ : ∀ s₃, Inv B A s₃ -> CS B V Wc fp h₀ env x St Acc (put Γ x (.sh d)) ds s₃.heap -> Q () s₃) : wpAny B.M A (PySem.assign (.Name x px) env v) Q E s := by
  refine wpAny_assign_Name (cstore F.O F.eo i q.st l fun s₃ i₃ wx off₃ cs₃ => ?_)
  refine hQ s₃ i₃ ⟨q.kp.step fun b o nb e => .inl (wx b o (fun q => nb (.inl q)) e), cs₃, ?_, hA _ _ q.acc (fun b o nb e _ => wx b o (fun w => nb (q.st.sub b w).1) e) fun o _ _ e => off₃ _ _ F.hDl F.hDc e⟩
  refine F.it.frame _ _ _ _ _ q.hst (fun b q => .inl q) fun b o e z => ?_
  exact z.elim (fun z => wx b o (F.hf b z) e) fun z => z.elim (fun z => wx b o (F.hb b z) e) fun z => wx b o (fun w => z.1 (q.st.sub b w).1) e
theorem CS.pure (F : CFix B A I D₀ fp bp Wc env x K Γ St StO) (hA : AccOk V D₀ Acc) (q : CS B V Wc fp h₀ env x St Acc Γ' ds h) (k : Kp h h') : CS B V Wc fp h₀ env x St Acc Γ' ds h' := by
  refine ⟨q.kp.step (k.off _), q.st.kq k.q fun o e => ?_, ?_, hA _ _ q.acc (fun b o _ e io => io.kept (k b o e)) fun o c1 c2 e => (k _ _ e).exact c1 c2⟩
  · refine byA q.st.loc fun _ hr => byEE hr fun ol es hr => byEAA hr fun ep hol hcl _ => ?_
    rw [hol] at e; cases e
    exact (k _ _ hol).exact (by rw [hcl]; simp) (by rw [hcl]; simp)
  · refine F.it.frame _ _ _ _ _ q.hst (fun b q => .inl q) fun b o e z => ?_
    refine z.elim (fun z => ?_) fun z => z.elim (fun z => ?_) fun z => z.2.kept (k b o e)
    · refine byEAA (F.it.there _ _ _ b q.hst z) fun o' e' p cn => ?_
      rw [e] at e'; cases e'
      exact (k b o e).exact p.2.1 cn
    · refine byEA (F.it.data _ _ _ b q.hst z) fun o' e' p => ?_
      rw [e] at e'; cases e'
      exact p.kept (k b o e)
theorem CS.grow (F : CFix B A I D₀ fp bp Wc env x K Γ St StO) (q : CS B V Wc fp h₀ env x St Acc (put Γ x (.sh d)) ds h) (hs : Heap.SameBut D₀ h h') (st : CStm B V Wc h' env x (put Γ x (.sh d))) (a : Acc' h') : CS B V Wc fp h₀ env x St Acc' Γ ds h' := by
  refine ⟨q.kp.step fun b o nb e => .inl ((hs.2 b fun z => nb (.inl (z ▸ F.wD))).trans e), st.less fun y sl e => put_none F.hx0 e, ?_, a⟩
  refine F.it.frame _ _ _ _ _ q.hst (fun b q => .inl q) fun b o e z => ?_
  refine (hs.2 b fun n => ?_).trans e
  exact z.elim (fun z => F.hf b z (n ▸ F.wD)) fun z => z.elim (fun z => F.hb b z (n ▸ F.wD)) fun z => z.1 (q.st.sub b (n ▸ F.wD)).1
theorem CS.less (F : CFix B A I D₀ fp bp Wc env x K Γ St StO) (q : CS B V Wc fp h₀ env x St Acc (put Γ x (.sh d)) ds h) : CS B V Wc fp h₀ env x St Acc Γ ds h :=
  ⟨q.kp, q.st.less fun y sl e => put_none F.hx0 e, q.hst, q.acc⟩
end
theorem inv_grow (O : B.Ok) {A : Around} {s : Shared} {a : Addr} {tk : Nat} (i : Inv B A s) (hs : Heap.SameBut a s.heap h') (ha : B.n₀ ≤ a) (hc : ∀ o, s.heap.get? a = some o → o.cls ≠ .type "code" ∧ o.cls ≠ .type "frame") : Inv B A { s with heap := h', toks := tk } := by
  refine ⟨O.step _ _ i.good fun b o hb' e => (hs.2 b fun z => hb'.elim (fun hb' => absurd (z ▸ ha) (Nat.not_le.mpr hb')) (hc o (z ▸ e)).1).trans e, i.gens, i.os, ?_⟩
  refine byEA i.fr fun l e hl => ?_
  refine ⟨l, e, fun env' he => ?_⟩
  refine byA (hl env' he) fun hk hr => byEE hr fun L o hr => byEEAAA hr fun es ep h1 h2 h3 hr => byA hr fun h4 h5 => ?_
  exact ⟨hk, L, o, es, ep, h1, h2, (hs.2 L fun z => (hc o (z ▸ h3)).2 h4).trans h3, h4, h5⟩
theorem byEEEEAAAA.{u0, u1, u2, u3} {α0 : Sort u0} {α1 : Sort u1} {α2 : Sort u2} {α3 : Sort u3} {p4 : α0 -> α1 -> α2 -> α3 -> Prop} {p5 : α0 -> α1 -> α2 -> α3 -> Prop} {p6 : α0 -> α1 -> α2 -> α3 -> Prop} {p7 : α0 -> α1 -> α2 -> α3 -> Prop} {p8 : α0 -> α1 -> α2 -> α3 -> Prop} {c : Prop} (h : ∃ x0, ∃ x1, ∃ x2, ∃ x3, (p4 x0 x1 x2 x3) /\ (p5 x0 x1 x2 x3) /\ (p6 x0 x1 x2 x3) /\ (p7 x0 x1 x2 x3) /\ (p8 x0 x1 x2 x3)) (k : ∀ x0 : α0, ∀ x1 : α1, ∀ x2 : α2, ∀ x3 : α3, (p4 x0 x1 x2 x3) -> (p5 x0 x1 x2 x3) -> (p6 x0 x1 x2 x3) -> (p7 x0 x1 x2 x3) -> (p8 x0 x1 x2 x3) -> c) : c := h.elim fun a0 h0 => h0.elim fun a1 h1 => h1.elim fun a2 h2 => h2.elim fun a3 h3 => k a0 a1 a2 a3 h3.1 h3.2.1 h3.2.2.1 h3.2.2.2.1 h3.2.2.2.2
theorem comp_loop (O : B.Ok) {A : Around} {I D₀ : Addr} {fp bp : Addr -> Prop} {St : (Addr -> Prop) -> List D -> Heap -> Prop} {StO : (Addr -> Prop) -> List D -> Value -> Heap -> Prop} {px pos : Pos} {iter elt : Expr} {ifs : List Expr} {sc : Scope} {s : Shared} {R : Result -> Shared -> Prop} {ds out : List D}
    (rm : Room k A) (eo : EnvOk K env) (i : Inv B A s) (it : Iter B A I fp bp false St StO) (st : CStm B V Wc s.heap env x Γ) (hx0 : Γ.lookup x = none) (hst : St V ds s.heap)
    (hacc : s.heap.PlainList D₀ #[]) (wD : Wc D₀) (hDl : D₀ ≠ env.locals) (hDc : env.cells.lookup x ≠ some D₀) (hf : ∀ b, fp b -> ¬ Wc b) (hb : ∀ b, bp b -> ¬ Wc b)
    (c : CompR B k K Γ x ifs elt ds out) (hz : out.length <= sizeLine)
    (hR : ∀ s' ys, Inv B A s' -> (∀ b o, s.heap.get? b = some o -> ¬ Wc b -> ¬ fp b -> Kept s'.heap b o) -> CStm B V Wc s'.heap env x Γ -> s'.heap.PlainList D₀ ys -> Lays B V s'.heap out ys.toList -> R (.ok .next) s') :
    codeAny B.M A (.compLoop (.ListComp elt [⟨.Name x px, iter, ifs, 0⟩] sc pos) 0 (.ref I) (.ref D₀) env) R s := by
  have F : CFix B A I D₀ fp bp Wc env x K Γ St StO := ⟨O, eo, it, wD, hDl, hDc, hf, hb, hx0⟩
  have hA : ∀ dn ys, AccOk V D₀ (fun h => h.PlainList D₀ ys /\ Lays B V h dn ys.toList) := fun dn ys h h' a k1 k2 => ⟨a.1.elim fun n e => ⟨n, k2 _ (by simp) (by simp) e⟩, a.2.mono fun b o nb e io => ⟨nb, k1 b o nb e io⟩⟩
  refine codeAny_compLoop_tests (fun n s' => ∃ ds' dn out' ys, n = ds'.length /\ Inv B A s' /\ CS B V Wc fp s.heap env x St (fun h => h.PlainList D₀ ys /\ Lays B V h dn ys.toList) Γ ds' s'.heap /\ CompR B k K Γ x ifs elt ds' out' /\ dn ++ out' = out) ?_ ds.length
    ⟨ds, [], out, #[], rfl, i, ⟨fun b o e _ _ => .inl e, st, hst, hacc, by simp [Lays]⟩, c, rfl⟩
  intro n s' hq
  refine byEEEEAAAA hq fun ds' dn out' ys hn i' q c' hout => ?_
  clear hq st hst hacc c
  refine c'.use (fun e1 e2 => ?_) (fun d ds₁ e1 ei cr => ?_) (fun d ds₁ vd out₁ e1 e2 ei ee cr => ?_)
  · refine CS.over F (hA dn ys) i' (e1 ▸ q) fun s₂ i₂ kp₂ cs₂ a₂ => ?_
    exact hR s₂ ys i₂ kp₂ cs₂ a₂.1 (by rw [<- hout, e2, List.append_nil]; exact a₂.2)
  · refine CS.turn F (hA dn ys) i' (e1 ▸ q) fun v s₂ i₂ q₂ l₂ => ?_
    refine CS.store F (hA dn ys) i₂ q₂ l₂ fun s₃ i₃ q₃ => ?_
    refine ei.run A env V s₃ _ _ rm eo i₃ q₃.st.r fun s₄ i₄ k₄ => ?_
    rw [if_neg (by simp)]
    exact ⟨ds₁.length, by rw [hn, e1]; exact Nat.lt_succ_self _, ds₁, dn, out', ys, rfl, i₄, (q₃.pure F (hA dn ys) k₄).less F, cr, hout⟩
  · refine CS.turn F (hA dn ys) i' (e1 ▸ q) fun v s₂ i₂ q₂ l₂ => ?_
    refine CS.store F (hA dn ys) i₂ q₂ l₂ fun s₃ i₃ q₃ => ?_
    refine ei.run A env V s₃ _ _ rm eo i₃ q₃.st.r fun s₄ i₄ k₄ => ?_
    rw [if_pos rfl]
    have q₄ := q₃.pure F (hA dn ys) k₄
    refine ee.run A env V s₄ _ _ rm eo i₄ q₄.st.r fun vv s₅ i₅ k₅ l₅ => ?_
    have q₅ := q₄.pure F (hA dn ys) k₅
    have hys : ys.size <= sizeLine := by
      rw [<- Array.length_toList, q₅.acc.2.length]
      refine Nat.le_trans ?_ hz
      rw [<- hout, List.length_append]; exact Nat.le_add_right _ _
    refine wpAny_list_append_plain (prog := B.prog) (w := B.w) q₅.acc.1 (fun h' hl' hs' => ?_) hys
    refine byEAA (q₅.acc.1.isList) fun oD hoD hcD _ => ?_
    refine byEAA (hl'.isList) fun oD' hoD' hcD' _ => ?_
    have keepK : ∀ b o, ¬ V b -> s₅.heap.get? b = some o -> IsData o -> ¬ V b /\ h'.get? b = some o := fun b o nb e _ => ⟨nb, (hs'.2 b fun z => nb (z ▸ (q₅.st.sub _ wD).1)).trans e⟩
    refine ⟨ds₁.length, by rw [hn, e1]; exact Nat.lt_succ_self _, ds₁, dn ++ [vd], out₁, ys.push vv, rfl, inv_grow O i₅ hs' (q₅.st.sub D₀ wD).2 fun o e => by rw [hoD] at e; cases e; rw [hcD]; simp, q₅.grow F hs' (q₅.st.app hs' wD ⟨oD, hoD, hcD⟩ ⟨_, hoD', hcD'⟩) ⟨hl', ?_⟩, cr, by rw [List.append_assoc, <- hout, e2]; rfl⟩
    rw [Array.toList_push]
    exact (q₅.acc.2.mono keepK).append (Lays.one (l₅.mono keepK))
end
noncomputable def closL (f : Str -> Addr) : List (Str × NameKind) -> List (Str × Addr) -> List (Str × Addr)
  | [], acc => acc
  | (n, k) :: r, acc => if k == .free then closL f r ((n, f n) :: acc) else closL f r acc
noncomputable def cellAdr (env : Env) (n : Str) : Addr := (env.cells.lookup n).getD 0
theorem cellOf_eq {env : Env} {n : Str} (h : (env.cells.lookup n).isSome = true) : cellOf env n = pure (cellAdr env n) := by
  refine byE (Option.isSome_iff_exists.mp h) fun c e => ?_
  unfold cellOf cellAdr
  rw [e]; rfl
theorem closureFor_eq {scope : Scope} {env : Env} (h : ∀ p ∈ scope.names, p.2 = .free -> (env.cells.lookup p.1).isSome = true) : closureFor scope env = pure (closL (cellAdr env) scope.names []) := by
  have key : ∀ (names : List (Str × NameKind)) (acc : List (Str × Addr)), (∀ p ∈ names, p.2 = .free -> (env.cells.lookup p.1).isSome = true) ->
      (forIn names acc fun (x : Str × NameKind) (cs : List (Str × Addr)) => (if x.2 == .free then do let a <- cellOf env x.1; pure (ForInStep.yield ((x.1, a) :: cs)) else pure (ForInStep.yield cs) : Sem (ForInStep (List (Str × Addr))))) = pure (closL (cellAdr env) names acc) := by
    intro names
    induction names with
    | nil => intro acc _; rfl
    | cons p r ih =>
      intro acc hp
      obtain ⟨n, k⟩ := p
      have hr := fun q hq => hp q (List.mem_cons_of_mem _ hq)
      rw [List.forIn_cons]
      unfold closL
      by_cases hk : (k == NameKind.free) = true
      · rw [if_pos hk]
        simp only [hk, if_true]
        rw [cellOf_eq (hp (n, k) List.mem_cons_self (beq_iff_eq.mp hk))]
        exact ih _ hr
      · rw [if_neg hk]
        simp only [hk]
        exact ih _ hr
  have := key scope.names [] h
  unfold closureFor
  first
    | exact this
    | (simp only [bind_pure]; exact this)
    | (rw [<- this]; rfl)
theorem closL_look (f : Str -> Addr) : ∀ (names : List (Str × NameKind)) (acc : List (Str × Addr)) (y : Str) (c : Addr), (closL f names acc).lookup y = some c -> ((y, NameKind.free) ∈ names /\ c = f y) \/ acc.lookup y = some c
  | [], acc, y, c, h => .inr h
  | (n, k) :: r, acc, y, c, h => by
    unfold closL at h
    by_cases hk : (k == NameKind.free) = true
    · rw [if_pos hk] at h
      rcases closL_look f r _ y c h with q | q
      · exact .inl ⟨List.mem_cons_of_mem _ q.1, q.2⟩
      · rw [List.lookup_cons] at q
        cases hy : y == n with
        | true =>
          rw [hy] at q; cases q
          obtain rfl := beq_iff_eq.mp hy
          obtain rfl := beq_iff_eq.mp hk
          exact .inl ⟨List.mem_cons_self, rfl⟩
        | false => rw [hy] at q; exact .inr q
    · rw [if_neg hk] at h
      rcases closL_look f r _ y c h with q | q
      · exact .inl ⟨List.mem_cons_of_mem _ q.1, q.2⟩
      · exact .inr q
theorem closL_keep (f : Str -> Addr) : ∀ (names : List (Str × NameKind)) (acc : List (Str × Addr)) (y : Str), acc.lookup y = some (f y) -> (closL f names acc).lookup y = some (f y)
  | [], acc, y, h => h
  | (n, k) :: r, acc, y, h => by
    unfold closL
    by_cases hk : (k == NameKind.free) = true
    · rw [if_pos hk]
      refine closL_keep f r _ y ?_
      rw [List.lookup_cons]
      cases hy : y == n with
      | true => rw [beq_iff_eq.mp hy]
      | false => exact h
    · rw [if_neg hk]; exact closL_keep f r _ y h
theorem closL_free (f : Str -> Addr) : ∀ (names : List (Str × NameKind)) (acc : List (Str × Addr)) (y : Str), names.lookup y = some .free -> (closL f names acc).lookup y = some (f y)
  | (n, k) :: r, acc, y, h => by
    rw [List.lookup_cons] at h
    unfold closL
    cases hy : y == n with
    | true =>
      rw [hy] at h; cases h
      rw [if_pos (by rfl)]
      refine closL_keep f r _ y ?_
      rw [List.lookup_cons, hy, beq_iff_eq.mp hy]
    | false =>
      rw [hy] at h
      split
      · exact closL_free f r _ y h
      · exact closL_free f r _ y h
theorem relK_look (K : Kinds) (sc : Scope) (y : Str) : relK K sc y = (sc.names.lookup y).map fun k => if (k == .free && K y == some .cell) then .cell else k := by
  unfold relK
  generalize sc.names = names
  induction names with
  | nil => rfl
  | cons p r ih =>
    obtain ⟨n, k⟩ := p
    rw [List.map_cons]
    show List.lookup y ((if (k == .free && K n == some .cell) = true then (n, NameKind.cell) else (n, k)) :: _) = _
    rw [show (if (k == .free && K n == some .cell) = true then (n, NameKind.cell) else (n, k)) = (n, if (k == .free && K n == some .cell) = true then .cell else k) from by split <;> rfl, List.lookup_cons, List.lookup_cons]
    cases hy : y == n with
    | true => rw [beq_iff_eq.mp hy]; rfl
    | false => exact ih
noncomputable def cap (Γ : G) : List (Str × NameKind) -> G
  | [] => []
  | (n, k) :: r => if k == .free then (match Γ.lookup n with | some sl => (n, sl) :: cap Γ r | none => cap Γ r) else cap Γ r
theorem cap_look (Γ : G) : ∀ (names : List (Str × NameKind)) (y : Str) (sl : Slot), (cap Γ names).lookup y = some sl -> Γ.lookup y = some sl /\ (y, NameKind.free) ∈ names
  | [], y, sl, h => by cases h
  | (n, k) :: r, y, sl, h => by
    unfold cap at h
    by_cases hk : (k == NameKind.free) = true
    · rw [if_pos hk] at h
      obtain rfl := beq_iff_eq.mp hk
      cases hg : Γ.lookup n with
      | none => rw [hg] at h; have := cap_look Γ r y sl h; exact ⟨this.1, List.mem_cons_of_mem _ this.2⟩
      | some sl' =>
        rw [hg] at h
        dsimp only at h
        rw [List.lookup_cons] at h
        cases hy : y == n with
        | true =>
          rw [hy] at h; cases h
          rw [beq_iff_eq.mp hy]
          exact ⟨hg, List.mem_cons_self⟩
        | false =>
          rw [hy] at h
          have := cap_look Γ r y sl h; exact ⟨this.1, List.mem_cons_of_mem _ this.2⟩
    · rw [if_neg hk] at h
      have := cap_look Γ r y sl h; exact ⟨this.1, List.mem_cons_of_mem _ this.2⟩
structure ScOk (K : Kinds) (Γ : G) (sc : Scope) (x : Str) (cx : Bool) : Prop where
  kind : sc.kind = .function
  locs : ∀ p ∈ sc.names, p.2 = .local -> sc.names.lookup p.1 = some .local
  frees : ∀ p ∈ sc.names, p.2 = .free -> sc.names.lookup p.1 = some .free /\ (Γ.lookup p.1).isSome = true /\ (K p.1 = some .cell \/ K p.1 = some .free)
  tgt : sc.names.lookup x = some (if cx then .cell else .local)
  cells : ∀ n acc, cellsFrom n sc.names acc = if cx then (x, n) :: acc else acc
  push : ∀ h, pushCells h sc.names = if cx then h.push { cls := .type "cell", data := .cell none } else h
section
variable {B : Base} {k : Nat} {K : Kinds} {Γ Γ' : G} {V Wc : Addr -> Prop} {h h' : Heap} {env : Env} {x : Str}
noncomputable def compEnv (sc : Scope) (env : Env) (C : Addr) (cells : List (Str × Addr)) : Env :=
  { scope := sc, locals := C, globals := env.globals, cells := cells, qual := env.qual, func := none, code := env.code, frame := env.frame, builtins := env.builtins }
theorem comp_frame (O : B.Ok) {A : Around} {sc : Scope} {cx : Bool} {s : Shared} {h₂ : Heap} {D₀ : Addr} {Q : Env -> Shared -> Prop} {E : Value -> Shared -> Prop} (sk : ScOk K Γ sc x cx) (eo : EnvOk K env) (g : EnvR B V h₂ env Γ) (i : Inv B A s)
    (kp : ∀ b o, h₂.get? b = some o -> s.heap.get? b = some o) (nD : h₂.get? D₀ = none) (hD : ∃ o, s.heap.get? D₀ = some o /\ IsData o) (lo : B.n₀ <= D₀)
    (hQ : ∀ C cells s' Wc, Inv B A s' -> (∀ b o, s.heap.get? b = some o -> s'.heap.get? b = some o) -> EnvOk (relK K sc) { compEnv sc env C cells with scope := relabel sc env } -> (∀ b, Wc b -> h₂.get? b = none) -> Wc D₀ -> D₀ ≠ C -> cells.lookup x ≠ some D₀ ->
      (∀ b, Wc b -> ∃ o, s'.heap.get? b = some o) -> (∀ b, Wc b -> b ≠ D₀ -> s.heap.get? b = none) -> Wc C ->
      CStm B (fun b => V b \/ Wc b) Wc s'.heap { compEnv sc env C cells with scope := relabel sc env } x (cap Γ sc.names) -> Q (compEnv sc env C cells) s') :
    wpAny B.M A (newFunctionEnv sc env.globals (closL (cellAdr env) sc.names []) [] env.qual none .none (some env)) Q E s := by
  have hsz : B.n₀ <= s.heap.objs.size := O.size _ i.good
  have hD0 : D₀ < s.heap.objs.size := by (refine byEA (hD) fun o ho _ => ?_; (try clear hD)); exact Heap.lt_size ho
  simp only [newFunctionEnv, Option.isSome_some, if_true]
  refine wpAny_bind (wpAny_alloc ?_)
  refine wpAny_bind (wpAny_layCells _ (fun name kind cells => by cases hkc : kind == NameKind.cell <;> simp [hkc]) _ _ _ _ ?_)
  rw [List.forIn_nil]
  refine wpAny_bind (wpAny_pure ?_)
  rw [show ({ s with heap := s.heap.push { cls := .type "dict", data := .dict #[] } } : Shared).heap.objs.size = s.heap.objs.size + 1 from Heap.size_push .., sk.cells, sk.push]
  show wpAny _ _ (pure _) _ _ _
  have k1 : ∀ b o, s.heap.get? b = some o → (s.heap.push { cls := .type "dict", data := .dict #[] }).get? b = some o := fun b o e => Heap.get?_push_of_some _ e
  have hC : (s.heap.push { cls := .type "dict", data := .dict #[] }).get? s.heap.objs.size = some { cls := .type "dict", data := .dict #[] } := Heap.get?_push_size _ rfl
  obtain ⟨h₄, hh₄⟩ : ∃ h₄, h₄ = (if cx = true then (s.heap.push { cls := .type "dict", data := .dict #[] }).push { cls := .type "cell", data := .cell none } else s.heap.push { cls := .type "dict", data := .dict #[] }) := ⟨_, rfl⟩
  have k2 : ∀ b o, (s.heap.push { cls := .type "dict", data := .dict #[] }).get? b = some o → h₄.get? b = some o := fun b o e => by
    subst hh₄
    cases cx
    · exact e
    · exact Heap.get?_push_of_some _ e
  have hcell : cx = true -> CellAt h₄ (s.heap.objs.size + 1) none := fun q => by
    subst q; subst hh₄
    refine ⟨{ cls := .type "cell", data := .cell none }, ?_, rfl, rfl⟩
    have := Heap.get?_push_size (s.heap.push { cls := .type "dict", data := .dict #[] }) (o := { cls := .type "cell", data := .cell none }) rfl
    rw [Heap.size_push] at this
    exact this
  rw [<- hh₄]
  have kk : ∀ b o, h₂.get? b = some o -> h₄.get? b = some o := fun b o e => k2 b o (k1 b o (kp b o e))
  have nC : h₂.get? s.heap.objs.size = none := by
    cases e : h₂.get? s.heap.objs.size with
    | none => rfl
    | some o => exact absurd (Heap.lt_size (kp _ _ e)) (Nat.lt_irrefl _)
  have nC' : h₂.get? (s.heap.objs.size + 1) = none := by
    cases e : h₂.get? (s.heap.objs.size + 1) with
    | none => rfl
    | some o => exact absurd (Heap.lt_size (kp _ _ e)) (Nat.not_lt.mpr (Nat.le_succ _))
  refine wpAny_pure (hQ s.heap.objs.size (if cx = true then (x, s.heap.objs.size + 1) :: closL (cellAdr env) sc.names [] else closL (cellAdr env) sc.names []) _ (fun b => b = D₀ \/ b = s.heap.objs.size \/ (cx = true /\ b = s.heap.objs.size + 1)) (i.keep O (tk := s.toks) fun b o e => k2 b o (k1 b o e)) (fun b o e => k2 b o (k1 b o e)) ⟨sk.kind, eo.glob, eo.blt, relabel_ok eo⟩ ?_ (.inl rfl) (Nat.ne_of_lt hD0) ?_ ?_ ?_ (.inr (.inl rfl)) ?_)
  · rintro b (rfl | rfl | ⟨_, rfl⟩)
    · exact nD
    · exact nC
    · exact nC'
  · -- the cell of x is no list
    intro q
    have look0 : ∀ c, (closL (cellAdr env) sc.names []).lookup x = some c -> False := fun c e => by
      rcases closL_look _ _ _ _ _ e with ⟨m, _⟩ | m
      · have := (sk.frees _ m rfl).1
        rw [sk.tgt] at this
        cases cx <;> cases this
      · cases m
    cases cx with
    | false => exact look0 _ q
    | true =>
      simp only [if_true, List.lookup_cons, beq_self_eq_true] at q
      injection q with q
      exact absurd hD0 (by rw [<- q]; exact Nat.not_lt.mpr (Nat.le_succ _))
  · rintro b (rfl | rfl | ⟨q, rfl⟩)
    · (refine byEA (hD) fun o ho _ => ?_; (try clear hD)); exact ⟨_, k2 _ _ (k1 _ _ ho)⟩
    · exact ⟨_, k2 _ _ hC⟩
    · refine byEA (hcell q) fun o ho _ => ?_; exact ⟨o, ho⟩
  · rintro b (rfl | rfl | ⟨q, rfl⟩) hb
    · exact absurd rfl hb
    · exact none_size (Nat.le_refl _)
    · exact none_size (Nat.le_succ _)
  · -- the state
    have look0 : ∀ c, (closL (cellAdr env) sc.names []).lookup x = some c -> False := fun c e => by
      rcases closL_look _ _ _ _ _ e with ⟨m, _⟩ | m
      · have := (sk.frees _ m rfl).1
        rw [sk.tgt] at this
        cases cx <;> cases this
      · cases m
    have keepK : ∀ b o, ¬ V b -> h₂.get? b = some o -> IsData o -> ¬ (V b \/ (b = D₀ \/ b = s.heap.objs.size \/ (cx = true /\ b = s.heap.objs.size + 1))) /\ h₄.get? b = some o := fun b o nb e _ =>
      ⟨fun q => (by
        rcases q with q | q | q | ⟨_, q⟩
        · exact nb q
        · rw [q, nD] at e; cases e
        · rw [q, nC] at e; cases e
        · rw [q, nC'] at e; cases e), kk b o e⟩
    have cap' : ∀ y sl, (cap Γ sc.names).lookup y = some sl -> Γ.lookup y = some sl /\ sc.names.lookup y = some .free /\ y ≠ x /\ ∃ c v, env.cells.lookup y = some c /\ CellAt h₂ c (some v) /\ Looks h₂ env y v /\ Holds B V h₂ sl v := by
      intro y sl e
      refine byA (cap_look _ _ _ _ e) fun e1 m => ?_
      refine byAA (sk.frees _ m rfl) fun f1 _ f3 => ?_
      refine byEA (g.vars y sl e1) fun v l hh => ?_
      refine ⟨e1, f1, ?_, ?_⟩
      · rintro rfl
        rw [sk.tgt] at f1
        cases cx <;> cases f1
      · rcases id l with ⟨q, _⟩ | ⟨_, c, q, r⟩
        · rw [eo.kind] at q; rcases f3 with h3 | h3 <;> (rw [q] at h3; cases h3)
        · exact ⟨c, v, q, r, l, hh⟩
    have looks : ∀ y sl v, (cap Γ sc.names).lookup y = some sl -> Looks h₂ env y v -> Looks h₄ { compEnv sc env s.heap.objs.size (if cx = true then (x, s.heap.objs.size + 1) :: closL (cellAdr env) sc.names [] else closL (cellAdr env) sc.names []) with scope := relabel sc env } y v := by
      intro y sl v e l
      (refine byAAA (cap' y sl e) fun e1 f1 hy hr1 => ?_; refine byEEAAA (hr1) fun c v' hc cc l' _ => ?_; (try clear hr1))
      obtain rfl := l.same l'
      refine .inr ⟨?_, c, ?_, cc.kept fun o e => .inl (kk _ _ e)⟩
      · have : (relabel sc env).names.lookup y = relK K sc y := relabel_ok eo y
        show (relabel sc env).names.lookup y = _ \/ (relabel sc env).names.lookup y = _
        rw [this, relK_look, f1]
        by_cases q : (NameKind.free == NameKind.free && K y == some NameKind.cell) = true
        · left; simp only [Option.map_some, q, if_true]
        · right; simp only [Option.map_some, q]; rfl
      · have z : (closL (cellAdr env) sc.names []).lookup y = some c := by
          rw [closL_free _ _ _ _ f1]; unfold cellAdr; rw [hc]; rfl
        show List.lookup y (if cx = true then _ else _) = some c
        cases cx with
        | false => exact z
        | true =>
          simp only [if_true, List.lookup_cons]
          rw [beq_eq_false_iff_ne.mpr hy]; exact z
    have back : ∀ y sl v, (cap Γ sc.names).lookup y = some sl -> Looks h₄ { compEnv sc env s.heap.objs.size (if cx = true then (x, s.heap.objs.size + 1) :: closL (cellAdr env) sc.names [] else closL (cellAdr env) sc.names []) with scope := relabel sc env } y v -> Looks h₂ env y v := by
      intro y sl v e l
      (refine byAAA (cap' y sl e) fun _ _ _ hr2 => ?_; refine byEEAAA (hr2) fun c v' _ _ l' _ => ?_; (try clear hr2))
      exact (looks y sl v' e l').same l ▸ l'
    refine ⟨⟨fun b hb => ?_, fun y sl e => ?_⟩, fun b q => ⟨.inr q, ?_⟩, ⟨.inr (.inl rfl), _, _, _, k2 _ _ hC, rfl, rfl, fun e he => by simp at he⟩, ?_, fun c hc hk y hy q => ?_, fun y a? d v e l => ?_⟩
    · rcases hb with hb | rfl | rfl | ⟨q, rfl⟩
      · refine byEA (g.domP b hb) fun o e n => ?_; exact ⟨o, kk b o e, n⟩
      · (refine byEA (hD) fun o ho hi => ?_; (try clear hD)); exact ⟨_, k2 _ _ (k1 _ _ ho), fun q => q.1 hi⟩
      · exact ⟨_, k2 _ _ hC, fun q => q.1 (.inr (.inr (.inl rfl)))⟩
      · refine byEAA (hcell q) fun o ho hc _ => ?_; exact ⟨o, ho, fun q => q.2.2 hc⟩
    · (refine byAAA (cap' y sl e) fun e1 f1 hy hr3 => ?_; refine byEEAAA (hr3) fun c v hc cc l hh => ?_; (try clear hr3))
      refine ⟨v, looks y sl v e l, ?_⟩
      cases sl with
      | sh d => exact Lay.mono keepK hh
      | own a? d =>
        (refine byEAAA (hh) fun r e' f g' ct => ?_; (try clear hh))
        exact ⟨r, e', f, .inl g', ct.mono keepK fun o eo _ => kk r o eo⟩
    · rcases q with rfl | rfl | ⟨_, rfl⟩
      · exact lo
      · exact hsz
      · exact Nat.le_succ_of_le hsz
    · have hk : (relabel sc env).names.lookup x = relK K sc x := relabel_ok eo x
      show (relabel sc env).names.lookup x = _ \/ ((relabel sc env).names.lookup x = _ /\ _)
      rw [hk, relK_look, sk.tgt]
      cases cx with
      | false => left; rfl
      | true =>
        right
        refine ⟨rfl, s.heap.objs.size + 1, ?_, .inr (.inr ⟨rfl, rfl⟩), none, hcell rfl⟩
        show List.lookup x ((x, s.heap.objs.size + 1) :: _) = _
        simp only [List.lookup_cons, beq_self_eq_true]
    · have hc' : List.lookup x (if cx = true then (x, s.heap.objs.size + 1) :: closL (cellAdr env) sc.names [] else closL (cellAdr env) sc.names []) = some c := hc
      have q' : List.lookup y (if cx = true then (x, s.heap.objs.size + 1) :: closL (cellAdr env) sc.names [] else closL (cellAdr env) sc.names []) = some c := q
      cases cx with
      | false => exact look0 _ hc'
      | true =>
        simp only [if_true, List.lookup_cons, beq_self_eq_true] at hc'
        injection hc' with hc'
        simp only [if_true, List.lookup_cons, beq_eq_false_iff_ne.mpr hy] at q'
        rcases closL_look _ _ _ _ _ q' with ⟨m, e⟩ | m
        · refine byAA (sk.frees _ m rfl) fun f1 f2 f3 => ?_
          refine byE (Option.isSome_iff_exists.mp f2) fun sl es => ?_
          refine byEA (g.vars _ _ es) fun v l _ => ?_
          rcases l with ⟨q, _⟩ | ⟨_, c', q, r⟩
          · rw [eo.kind] at q; rcases f3 with h3 | h3 <;> (rw [q] at h3; cases h3)
          · have : cellAdr env y = c' := by unfold cellAdr; rw [q]; rfl
            (refine byEA (r) fun o ho _ => ?_; (try clear r))
            rw [<- this, <- e, <- hc', nC'] at ho; cases ho
        · cases m
    · refine byA (cap' y _ e) fun e1 _ => ?_
      have l' := back y _ v e l
      refine byEAEAAA (g.vars y _ e1) fun v' l'' r e' f gv ct => ?_
      obtain rfl := l''.same l'
      refine ⟨r, e', ?_⟩
      refine byEA (ct.there) fun o ho _ => ?_
      rintro (rfl | rfl | ⟨_, rfl⟩)
      · rw [nD] at ho; cases ho
      · rw [nC] at ho; cases ho
      · rw [nC'] at ho; cases ho
end
section
variable {B : Base} {k : Nat} {K : Kinds} {Γ Γ' : G} {V Wc : Addr -> Prop} {h h' : Heap} {env : Env} {x : Str}
theorem cap_none {sc : Scope} {cx : Bool} (sk : ScOk K Γ sc x cx) : (cap Γ sc.names).lookup x = none := by
  cases e : (cap Γ sc.names).lookup x with
  | none => rfl
  | some sl =>
    have := (sk.frees _ (cap_look _ _ _ _ e).2 rfl).1
    rw [sk.tgt] at this
    cases cx <;> cases this
theorem Inv.sameBut (O : B.Ok) {A : Around} {s : Shared} {a : Addr} {tk : Nat} (i : Inv B A s) (hs : Heap.SameBut a s.heap h') (lo : B.n₀ ≤ a) (ho : ∀ o, s.heap.get? a = some o → o.cls ≠ .type "frame" ∧ o.cls ≠ .type "code") : Inv B A { s with heap := h', toks := tk } :=
  inv_grow O i hs lo fun o e => ⟨(ho o e).2, (ho o e).1⟩
theorem Kept.same {b : Addr} {o : Obj} (k : Kept h b o) (e : h'.get? b = h.get? b) : Kept h' b o := by
  rcases k with k | ⟨c, sl, k⟩ | ⟨c, o', k⟩
  · exact .inl (e.trans k)
  · exact .inr (.inl ⟨c, sl, e.trans k⟩)
  · exact .inr (.inr ⟨c, o', e.trans k⟩)
theorem Kp.but {h₁ h₂ h₃ : Heap} {a : Addr} (k : Kp h₁ h₂) (hs : Heap.SameBut a h₂ h₃) (n : h₁.get? a = none) : Kp h₁ h₃ := fun b o e =>
  (k b o e).same (hs.2 b (by rintro rfl; rw [n] at e; cases e))
theorem comp_core (O : B.Ok) {px pos : Pos} {iter elt : Expr} {ifs : List Expr} {sc : Scope} {ds out : List D} {cx : Bool} {use : Option (Value -> Sem Unit)} {A : Around} {s : Shared} {Q : Value -> Shared -> Prop} {E : Value -> Shared -> Prop}
    (xi : EvIB B k K Γ iter ds) (sk : ScOk K Γ sc x cx) (c : CompR B k (relK K sc) (cap Γ sc.names) x ifs elt ds out) (hz : out.length <= sizeLine) (hs : ∀ env v, foldedSetIterable iter env v = pure v)
    (rm : Room k A) (eo : EnvOk K env) (i : Inv B A s) (g : EnvR B V s.heap env Γ)
    (hP : ∀ D₀ C s', Inv B A s' → Kp s.heap s'.heap → s.heap.get? D₀ = none → s.heap.get? C = none → C ≠ D₀ → B.n₀ ≤ D₀ → B.n₀ ≤ C → (∃ o es ep, s'.heap.get? C = some o ∧ o.cls = .type "dict" ∧ o.data = .dict es ep ∧ StrKeys es) →
      Content B (fun b => V b \/ b = D₀ \/ b = C) s'.heap (.list out) D₀ -> compPost B.M A E use Q (.ref D₀) C (.ok .next) s') :
    wpAny B.M A (comprehension (.ListComp elt [⟨.Name x px, iter, ifs, 0⟩] sc pos) sc env (firstIterPos [⟨.Name x px, iter, ifs, 0⟩] pos) (newList []) false (eval iter env) use) Q E s := by
  have hcl : closureFor sc env = pure (closL (cellAdr env) sc.names []) := closureFor_eq fun p hp hf => by
    refine byAA (sk.frees p hp hf) fun _ h2 h3 => ?_
    refine byE (Option.isSome_iff_exists.mp h2) fun sl e => ?_
    refine byEA (g.vars _ _ e) fun v l _ => ?_
    rcases l with ⟨q, _⟩ | ⟨_, c, q, _⟩
    · rw [eo.kind] at q; rcases h3 with h3 | h3 <;> (rw [q] at h3; cases h3)
    · rw [q]; rfl
  refine wpAny_comprehension_free rfl (hs env) hcl sk.kind sk.locs (xi.run A env V s _ E rm eo i g fun I fp bp St StO s₂ i₂ k₂ it st₂ nf => ?_)
  refine wpAny_newList ?_
  have kD : ∀ b o, s₂.heap.get? b = some o → (s₂.heap.push { cls := .type "list", data := .seq (List.toArray []) }).get? b = some o := fun b o e => Heap.get?_push_of_some _ e
  refine comp_frame O sk eo (g.kp k₂) (s := { s₂ with heap := s₂.heap.push { cls := .type "list", data := .seq (List.toArray []) } }) (i₂.keep O (tk := s₂.toks) kD) kD (none_size (Nat.le_refl _)) ⟨_, Heap.get?_push_size _ rfl, .inl rfl⟩ (O.size _ i₂.good)
    fun C cells s₄ Wc i₄ k₄ eo₄ wn wD hDC hcD wt wn' wC cs => ?_
  have kk : ∀ b o, s₂.heap.get? b = some o -> s₄.heap.get? b = some o := fun b o e => k₄ b o (kD b o e)
  have nz : ∀ b, s₂.heap.get? b = none -> s.heap.get? b = none := fun b e => by
    cases q : s.heap.get? b with
    | none => rfl
    | some o => refine byE ((k₂ b o q).ex) fun o' e' => ?_; rw [e] at e'; cases e'
  have st₄ : St (fun b => V b \/ Wc b) ds s₄.heap := it.frame _ _ _ _ _ st₂ (fun b q => q.imp id fun w => wn b w) fun b o e _ => kk b o e
  have fpw : ∀ b, fp b -> ¬ Wc b := fun b f w => by
    refine byEA (it.there _ _ _ b st₂ f) fun o e _ => ?_
    rw [wn b w] at e; cases e
  have bpw : ∀ b, bp b -> ¬ Wc b := fun b f w => by
    refine byEA (it.data _ _ _ b st₂ f) fun o e _ => ?_
    rw [wn b w] at e; cases e
  have hD : s₄.heap.PlainList s₂.heap.objs.size #[] := ⟨_, k₄ _ _ (Heap.get?_push_size _ rfl)⟩
  have loop := comp_loop (px := px) (pos := pos) (iter := iter) (sc := sc) (R := compPost B.M A E use Q (.ref s₂.heap.objs.size) C) O rm eo₄ i₄ it cs (cap_none sk) st₄ hD wD hDC hcD fpw bpw c hz fun s' ys i' kp' cs' hl' ls' => by
    refine hP s₂.heap.objs.size C s' i' (fun b o e => ?_) (nz _ (none_size (Nat.le_refl _))) (nz _ (wn _ wC)) (Ne.symm hDC) (O.size _ i₂.good) (cs'.sub _ wC).2 cs'.loc.2 ⟨ys, hl', ls'.mono fun b o nb e _ => ⟨fun q => ?_, e⟩⟩
    · have h1 : ∀ b o, s₂.heap.get? b = some o -> Kept s'.heap b o \/ fp b := fun b o e => by
        by_cases f : fp b
        · exact .inr f
        · exact .inl (kp' b o (kk b o e) (fun w => by rw [wn b w] at e; cases e) f)
      have nfp : ¬ fp b := fun f => by rw [nf b f] at e; cases e
      rcases k₂ b o e with q | ⟨cl, sl, q⟩ | ⟨cl, o', q⟩
      · exact (h1 b o q).resolve_right nfp
      · rcases (h1 b _ q).resolve_right nfp with z | ⟨_, sl', z⟩ | ⟨z, _⟩
        · exact .inr (.inl ⟨cl, sl, z⟩)
        · exact .inr (.inl ⟨cl, sl', z⟩)
        · exact absurd (cl.symm.trans z) (by simp)
      · exact .inr (.inr ⟨cl, ((h1 b _ q).resolve_right nfp).ex⟩)
    · rcases q with q | q | q
      · exact nb (.inl q)
      · exact nb (.inr (q ▸ wD))
      · exact nb (.inr (q ▸ wC))
  exact codeAny_compStart_list loop (it.self _ _ _ _ _ st₄ loop)
theorem EvF.comp (O : B.Ok) {px pos : Pos} {iter elt : Expr} {ifs : List Expr} {sc : Scope} {ds out : List D} {cx : Bool} {Γc : G}
    (xi : EvIB B k K Γ iter ds) (sk : ScOk K Γ sc x cx) (hΓ : cap Γ sc.names = Γc) (c : CompR B k (relK K sc) Γc x ifs elt ds out) (hz : out.length <= sizeLine) (hs : ∀ env v, foldedSetIterable iter env v = pure v := by intro _ _; rfl) :
    EvF B k K Γ (.ListComp elt [⟨.Name x px, iter, ifs, 0⟩] sc pos) (.list out) := .mk fun A env V s Q E rm eo i g h => by
  subst hΓ
  rw [eval_ListComp]
  refine comp_core O xi sk c hz hs rm eo i g fun D₀ C s' i' kp nD nC hne lo loC hC cD => ?_
  (refine byEE (hC) fun o es hr4 => ?_; (try clear hC); refine byEAAA (hr4) fun ep hoC hcC hdC hkC => ?_; (try clear hr4))
  refine ⟨nsFind es, ⟨o, es, ep, hoC, hdC, hkC, fun _ => rfl⟩, fun h'' hsm => ?_⟩
  have keepK : ∀ b o, ¬ (V b \/ b = D₀ \/ b = C) -> s'.heap.get? b = some o -> IsData o -> ¬ (V b \/ b = D₀) /\ h''.get? b = some o := fun b o nb e _ =>
    ⟨fun q => nb (q.imp id .inl), (hsm.2 b fun q => nb (.inr (.inr q))).trans e⟩
  exact h D₀ { s' with heap := h'' } (i'.sameBut O (tk := s'.toks) hsm loC fun o' e => by rw [hoC] at e; cases e; rw [hcC]; simp) (kp.but hsm nC) nD lo (cD.mono keepK fun o e _ => (hsm.2 D₀ (Ne.symm hne)).trans e)
theorem Ex1.assignC (O : B.Ok) {y : Str} {py p px pos : Pos} {iter elt : Expr} {ifs : List Expr} {sc : Scope} {ds out : List D} {cx : Bool} {Γc : G}
    (xi : EvIB B k K Γ iter ds) (sk : ScOk K Γ sc x cx) (hΓ : cap Γ sc.names = Γc) (c : CompR B k (relK K sc) Γc x ifs elt ds out) (hz : out.length <= sizeLine) (hy : K y = some .local \/ K y = some .cell) (hs : ∀ env v, foldedSetIterable iter env v = pure v := by intro _ _; rfl)
    (hsw : ∀ env, EnvOk K env -> swapsWith (.ListComp elt [⟨.Name x px, iter, ifs, 0⟩] sc pos) (some (.Name y py)) p.line env = pure true) :
    Ex1 B k K Γ (.Assign [.Name y py] (.ListComp elt [⟨.Name x px, iter, ifs, 0⟩] sc pos) p) .next (put Γ y (.own none (.list out))) := .mk fun A env V₀ W s Q E rm eo i st h => by
  subst hΓ
  rw [exec_Assign_Name_used _ _ _ _ (hsw env eo)]
  refine wpAny_bind (wpAny_standAt (wpAny_bind ?_))
  show wpAny _ A (do let _ <- comprehension (.ListComp elt [⟨.Name x px, iter, ifs, 0⟩] sc pos) sc env (firstIterPos [⟨.Name x px, iter, ifs, 0⟩] pos) (newList []) false (eval iter env) (some (PySem.assign (.Name y py) env))) _ _ s
  refine wpAny_bind (comp_core O xi sk c hz hs rm eo i st.r fun D₀ C s' i' kp nD nC hne lo loC hC cD => ?_)
  (refine byEE (hC) fun o es hr5 => ?_; (try clear hC); refine byEAAA (hr5) fun ep hoC hcC hdC hkC => ?_; (try clear hr5))
  show wpAny B.M A (PySem.assign (.Name y py) env (.ref D₀)) _ _ s'
  refine byEA (cD.there) fun oD hoD ioD => ?_
  have st2 : Stm B V₀ (fun b => (W b \/ b = C) \/ b = D₀) s'.heap env Γ := by
    exact st.grow2 kp nC nD loC lo ⟨_, hoC, fun q => q.1 (.inr (.inr (.inl hcC)))⟩ ⟨_, hoD, fun q => q.1 ioD⟩
  have hh : Holds B (fun b => V₀ b \/ ((W b \/ b = C) \/ b = D₀)) s'.heap (.own none (.list out)) (.ref D₀) := ⟨D₀, rfl, (fun _ e => nomatch e), .inr (.inr rfl), cD.shrink fun b (q : V₀ b \/ (W b \/ b = C) \/ b = D₀) => (by
    rcases q with q | (q | q) | q
    · exact .inl (.inl q)
    · exact .inl (.inr q)
    · exact .inr (.inr q)
    · exact .inr (.inl q))⟩
  refine wpAny_assign_Name (store_stm' O eo hy i' st2 hh (fun a? d' e => ?_) fun s₃ a i₃ u wa st₃ l1 l2 => ?_)
  · refine ⟨⟨D₀, rfl, .inr rfl, fun _ q => ?_⟩, fun z a?' d'' w hz' ez lz => st.notNew kp nD ez lz⟩
    refine byE (st.r.dom D₀ (.inl q)) fun o' e' => ?_
    rw [nD] at e'; cases e'
  · have nVC : ¬ V₀ C := fun q => by refine byE (st.r.dom C (.inl q)) fun o' e' => ?_; rw [nC] at e'; cases e'
    have nWC : ¬ W C := fun q => by refine byE (st.r.dom C (.inr q)) fun o' e' => ?_; rw [nC] at e'; cases e'
    have hlC : env.locals ≠ C := fun q => nWC (q ▸ st.loc.1)
    have hcC' : ∀ y c, (y, c) ∈ env.cells -> c ≠ C := fun y c m q => nWC (q ▸ (st.cells y c m).1)
    have haC : C ≠ a := by
      rintro rfl
      refine byEEAA (u.old) fun o1 o2 h1 h2 cc => ?_
      rw [hoC] at h1; cases h1
      rcases cc with ⟨cc, _⟩ | ⟨cc, _⟩
      · rw [hcC] at cc; exact absurd cc (by simp)
      · rw [hcC] at cc; exact absurd cc (by simp)
    have hoC3 : s₃.heap.get? C = some o := (u.same.2 C haC).trans hoC
    refine ⟨nsFind es, ⟨o, es, ep, hoC3, hdC, hkC, fun _ => rfl⟩, fun h'' hsm => wpAny_pure (wpAny_pure ?_)⟩
    have st4 := st₃.drop (C := C) (.inl (.inr rfl)) nVC hsm hlC hcC' fun z a? d v ez lz => by
      rw [put_look] at ez
      by_cases q : (z == y) = true
      · rw [if_pos q] at ez
        obtain rfl := beq_iff_eq.mp q
        rw [<- l1.same lz]
        intro q'
        cases q'
        exact hne rfl
      · rw [if_neg q] at ez
        have hz' : z ≠ y := fun q' => q (beq_iff_eq.mpr q')
        refine byEA (st2.r.vars z _ ez) fun w' lw _ => ?_
        have := (l2 z w' hz' lw).same lz
        subst this
        exact st.notNew kp nC ez lw
    have kp3 : KpOff W s.heap s₃.heap := fun b o nb e => by
      have hb : b ≠ a := by
        rintro rfl
        rcases wa with (q | q) | q
        · exact nb q
        · exact haC q.symm
        · rw [q, nD] at e; cases e
      exact (kp b o e).same (u.same.2 b hb)
    refine h .next { s₃ with heap := h'' } _ (i₃.sameBut O (tk := s₃.toks) hsm loC fun o' e => by rw [hoC3] at e; cases e; rw [hcC]; simp) (fun b o' e => ?_) ⟨fun b q => ?_, fun b o' nb e => (kp3 b o' nb e).same (hsm.2 b (by rintro rfl; rw [nC] at e; cases e))⟩ st4 rfl
    · refine byE ((kp b o' e).ex) fun o1 e1 => ?_
      refine byE (u.dom b o1 e1) fun o2 e2 => ?_
      exact ⟨o2, (hsm.2 b (by rintro rfl; rw [nC] at e; cases e)).trans e2⟩
    · refine byA (q) fun q nq => ?_
      rcases q with (q | q) | q
      · exact .inl q
      · exact absurd q nq
      · exact .inr (q ▸ nD)
end
section
variable {B : Base} {k : Nat} {K : Kinds} {Γ Γ' : G} {V Wc : Addr -> Prop} {h h' : Heap} {env : Env} {x : Str}
theorem own_plain {M : Model} {A : Around} {I : Addr} {ts : List Expr} {n : Nat} {p : Pos} {v : Value} {s : Shared} {o : Obj} {c : String} {Q : Unit -> Shared -> Prop} {E : Value -> Shared -> Prop} (ho : s.heap.get? I = some o) (hc : o.cls = .type c)
    (hn : ["enumerate", "zip", "dict_itemiterator", "dict_reverseitemiterator", "odict_iterator", "itertools.zip_longest", "itertools.pairwise"].contains c = false) (h : Q () s) : wpAny M A (letOwnedTupleGo (.Tuple ts n p) (.ref I) v) Q E s := by
  unfold letOwnedTupleGo
  cases v with
  | ref a =>
    refine wpAny_bind (wpAny_load ho ?_)
    rw [hc]
    cases hd : o.data with
    | fields vs =>
      dsimp only
      rw [hn]
      exact wpAny_pure h
    | _ => exact wpAny_pure h
  | _ => exact wpAny_pure h
theorem priv_of {o : Obj} {c : String} (e : o.cls = .type c) (h : (c == "list" || c == "tuple" || c == "dict" || c == "set" || c == "frame" || c == "cell") = false) : IsPriv o ∧ o.cls ≠ .none := by
  simp only [Bool.or_eq_false_iff, beq_eq_false_iff_ne] at h
  refine ⟨⟨fun i => ?_, ?_, ?_⟩, by rw [e]; simp⟩
  · rcases i with q | q | q | q <;> (rw [e] at q; injection q with q; simp [q] at h)
  · rw [e]; intro q; injection q with q; exact h.1.2 q
  · rw [e]; intro q; injection q with q; exact h.2 q
theorem notData_of {o : Obj} {c : String} (e : o.cls = .type c) (h : (c == "list" || c == "tuple" || c == "dict" || c == "set" || c == "frame" || c == "cell") = false) : ¬ IsData o := (priv_of e h).1.1
theorem Iter.list (O : B.Ok) {A : Around} (hh : A.handled = none) {I ax : Addr} {items : Array Value} (hne : ax ≠ I) (lo : B.n₀ <= I) (bo : Bool) :
    Iter B A I (fun b => b = I) (fun b => bo = true /\ b = ax) false
      (fun V ds h => ∃ i, h.IsListIter I ax i /\ h.IsList ax items /\ (bo = false -> ¬ V ax) /\ Lays B V h ds (items.toList.drop i))
      (fun V ds v h => ∃ i, h.IsListIter I ax i /\ h.IsList ax items /\ (bo = false -> ¬ V ax) /\ Lays B V h ds (items.toList.drop i)) where
  frame := fun V V' ds h h' hx hv hk => by
    (refine byEAAA (hx) fun i h1 h2 h3 h4 => ?_; (try clear hx))
    (refine byEAA (h1) fun oi a1 a2 a3 => ?_; (try clear h1))
    (refine byEAA (h2) fun ol b1 b2 b3 => ?_; (try clear h2))
    refine ⟨i, ⟨oi, hk _ _ a1 (.inl rfl), a2, a3⟩, ⟨ol, hk _ _ b1 ?_, b2, b3⟩, fun q w => ?_, h4.mono fun b o nb e d => ⟨fun w => (hv b w).elim nb (fun z => by rw [e] at z; cases z), hk _ _ e (.inr (.inr ⟨nb, d⟩))⟩⟩
    · cases bo with
      | true => exact .inr (.inl ⟨rfl, rfl⟩)
      | false => exact .inr (.inr ⟨h3 rfl, .inl b2⟩)
    · rcases hv _ w with w | w
      · exact h3 q w
      · rw [b1] at w; cases w
  item := fun V d ds s Q E inv _ hx hQ => by
    (refine byEAAA (hx) fun i h1 h2 h3 h4 => ?_; (try clear hx))
    have hl : i < items.size := by
      have := h4.length
      simp at this
      omega
    have e4 : items.toList.drop i = items[i] :: items.toList.drop (i + 1) := by simp [List.drop_eq_getElem_cons, hl]
    rw [e4] at h4
    simp only [Lays] at h4
    (refine byEEAA (h4) fun v r e lv lr => ?_; (try clear h4))
    refine byA (List.cons.inj e) fun ev er => ?_
    subst ev; subst er
    refine wpAny_pyNext_list_item (prog := B.prog) (w := B.w) h1 h2 (x := items[i]) (by simp [hl]) fun h' hit hs => ?_
    refine byEAA (id h1) fun oi a1 a2 a3 => ?_
    have nI : ∀ b o, s.heap.get? b = some o -> IsData o -> b ≠ I := fun b o e d => by
      rintro rfl
      rw [a1] at e; cases e
      exact notData_of a2 (by decide) d
    have keepK : ∀ b o, ¬ V b -> s.heap.get? b = some o -> IsData o -> ¬ V b /\ h'.get? b = some o := fun b o nb e d => ⟨nb, (hs.2 b (nI b o e d)).trans e⟩
    refine hQ _ { s with heap := h' } (inv.sameBut O (tk := s.toks) hs lo fun o e => by rw [a1] at e; cases e; rw [a2]; simp) ⟨i + 1, hit, h2.extBut hs.extBut hne, h3, lr.mono keepK⟩ (fun b o e nb => (hs.2 b nb).trans e)
      (lv.mono fun b o nb e d => ⟨fun q => q.elim nb (nI b o e d), (hs.2 b (nI b o e d)).trans e⟩)
  done := fun V s Q E inv hx hQ => by
    (refine byEAAA (hx) fun i h1 h2 h3 h4 => ?_; (try clear hx))
    simp only [Lays] at h4
    have hl : items.size <= i := by simpa using h4
    refine byEAA (id h1) fun oi a1 a2 a3 => ?_
    refine wpAny_pyNext_list_end (prog := B.prog) (w := B.w) hh h1 h2 (by simp [hl]) fun h' hs => hQ { s with heap := h' } ?_ fun b o e nb => hs b o nb e
    refine ⟨O.step _ _ inv.good fun b o hb e => hs b o (by rintro rfl; exact hb.elim (fun hb => absurd lo (Nat.not_le.mpr hb)) fun c => by rw [a1] at e; cases e; rw [a2] at c; exact absurd c (by simp)) e, inv.gens, inv.os, ?_⟩
    refine byEA (inv.fr) fun l e hl => ?_
    refine ⟨l, e, fun env' he => ?_⟩
    (refine byA (hl env' he) fun hk hr1 => ?_; refine byEE (hr1) fun L o hr2 => ?_; (try clear hr1); refine byEEAAA (hr2) fun es ep f1 f2 f3 hr3 => ?_; (try clear hr2); refine byA (hr3) fun f4 f5 => ?_; (try clear hr3))
    exact ⟨hk, L, o, es, ep, f1, f2, hs L o (by rintro rfl; rw [a1] at f3; cases f3; rw [a2] at f4; exact absurd f4 (by simp)) f3, f4, f5⟩
  self := fun V ds s Q E hx hQ => by (refine byEA (hx) fun i h1 _ => ?_; (try clear hx)); exact wpAny_pyIter_listiter (prog := B.prog) (w := B.w) h1 hQ
  own := fun V ds ts n p v s Q E inv hx hQ => by
    (refine byEA (hx) fun i h1 h2 => ?_; (try clear hx))
    refine byEAA (id h1) fun oi a1 a2 a3 => ?_
    exact own_plain a1 a2 (by decide) (hQ s inv ⟨i, h1, h2⟩ fun _ _ e _ => e)
  plain := fun _ _ _ _ _ x => x
  there := fun V ds h b hx e => by (refine byEA (hx) fun i hp4 _ => ?_; (try clear hx); obtain ⟨oi, a1, a2, _⟩ := hp4); exact ⟨oi, e ▸ a1, priv_of a2 (by decide)⟩
  thereO := fun V ds v h b hx e => by (refine byEA (hx) fun i hp5 _ => ?_; (try clear hx); obtain ⟨oi, a1, a2, _⟩ := hp5); exact ⟨oi, e ▸ a1, priv_of a2 (by decide)⟩
  data := fun V ds h b hx e => by (refine byEAA (hx) fun i _ hp6 _ => ?_; (try clear hx); obtain ⟨ol, b1, b2, _⟩ := hp6); exact ⟨ol, e.2 ▸ b1, .inl b2⟩
theorem Iter.tuple (O : B.Ok) {A : Around} (hh : A.handled = none) {I ax : Addr} {items : Array Value} (hne : ax ≠ I) (lo : B.n₀ <= I) (bo : Bool) :
    Iter B A I (fun b => b = I) (fun b => bo = true /\ b = ax) false
      (fun V ds h => ∃ i, h.IsTupleIter I ax i /\ h.IsTuple ax items /\ (bo = false -> ¬ V ax) /\ Lays B V h ds (items.toList.drop i))
      (fun V ds v h => ∃ i, h.IsTupleIter I ax i /\ h.IsTuple ax items /\ (bo = false -> ¬ V ax) /\ Lays B V h ds (items.toList.drop i)) where
  frame := fun V V' ds h h' hx hv hk => by
    (refine byEAAA (hx) fun i h1 h2 h3 h4 => ?_; (try clear hx))
    (refine byEAA (h1) fun oi a1 a2 a3 => ?_; (try clear h1))
    (refine byEAA (h2) fun ol b1 b2 b3 => ?_; (try clear h2))
    refine ⟨i, ⟨oi, hk _ _ a1 (.inl rfl), a2, a3⟩, ⟨ol, hk _ _ b1 ?_, b2, b3⟩, fun q w => ?_, h4.mono fun b o nb e d => ⟨fun w => (hv b w).elim nb (fun z => by rw [e] at z; cases z), hk _ _ e (.inr (.inr ⟨nb, d⟩))⟩⟩
    · cases bo with
      | true => exact .inr (.inl ⟨rfl, rfl⟩)
      | false => exact .inr (.inr ⟨h3 rfl, .inr (.inl b2)⟩)
    · rcases hv _ w with w | w
      · exact h3 q w
      · rw [b1] at w; cases w
  item := fun V d ds s Q E inv _ hx hQ => by
    (refine byEAAA (hx) fun i h1 h2 h3 h4 => ?_; (try clear hx))
    have hl : i < items.size := by
      have := h4.length
      simp at this
      omega
    have e4 : items.toList.drop i = items[i] :: items.toList.drop (i + 1) := by simp [List.drop_eq_getElem_cons, hl]
    rw [e4] at h4
    simp only [Lays] at h4
    (refine byEEAA (h4) fun v r e lv lr => ?_; (try clear h4))
    refine byA (List.cons.inj e) fun ev er => ?_
    subst ev; subst er
    refine wpAny_pyNext_tuple_item (prog := B.prog) (w := B.w) h1 h2 (x := items[i]) (by simp [hl]) fun h' hit hs => ?_
    refine byEAA (id h1) fun oi a1 a2 a3 => ?_
    have nI : ∀ b o, s.heap.get? b = some o -> IsData o -> b ≠ I := fun b o e d => by
      rintro rfl
      rw [a1] at e; cases e
      exact notData_of a2 (by decide) d
    have keepK : ∀ b o, ¬ V b -> s.heap.get? b = some o -> IsData o -> ¬ V b /\ h'.get? b = some o := fun b o nb e d => ⟨nb, (hs.2 b (nI b o e d)).trans e⟩
    refine hQ _ { s with heap := h' } (inv.sameBut O (tk := s.toks) hs lo fun o e => by rw [a1] at e; cases e; rw [a2]; simp) ⟨i + 1, hit, h2.extBut hs.extBut hne, h3, lr.mono keepK⟩ (fun b o e nb => (hs.2 b nb).trans e)
      (lv.mono fun b o nb e d => ⟨fun q => q.elim nb (nI b o e d), (hs.2 b (nI b o e d)).trans e⟩)
  done := fun V s Q E inv hx hQ => by
    (refine byEAAA (hx) fun i h1 h2 h3 h4 => ?_; (try clear hx))
    simp only [Lays] at h4
    have hl : items.size <= i := by simpa using h4
    refine byEAA (id h1) fun oi a1 a2 a3 => ?_
    refine wpAny_pyNext_tuple_end (prog := B.prog) (w := B.w) hh h1 h2 (by simp [hl]) fun h' hs => hQ { s with heap := h' } ?_ fun b o e nb => hs b o nb e
    refine ⟨O.step _ _ inv.good fun b o hb e => hs b o (by rintro rfl; exact hb.elim (fun hb => absurd lo (Nat.not_le.mpr hb)) fun c => by rw [a1] at e; cases e; rw [a2] at c; exact absurd c (by simp)) e, inv.gens, inv.os, ?_⟩
    refine byEA (inv.fr) fun l e hl => ?_
    refine ⟨l, e, fun env' he => ?_⟩
    (refine byA (hl env' he) fun hk hr7 => ?_; refine byEE (hr7) fun L o hr8 => ?_; (try clear hr7); refine byEEAAA (hr8) fun es ep f1 f2 f3 hr9 => ?_; (try clear hr8); refine byA (hr9) fun f4 f5 => ?_; (try clear hr9))
    exact ⟨hk, L, o, es, ep, f1, f2, hs L o (by rintro rfl; rw [a1] at f3; cases f3; rw [a2] at f4; exact absurd f4 (by simp)) f3, f4, f5⟩
  self := fun V ds s Q E hx hQ => by (refine byEA (hx) fun i h1 _ => ?_; (try clear hx)); exact wpAny_pyIter_tupleiter (prog := B.prog) (w := B.w) h1 hQ
  own := fun V ds ts n p v s Q E inv hx hQ => by
    (refine byEA (hx) fun i h1 h2 => ?_; (try clear hx))
    refine byEAA (id h1) fun oi a1 a2 a3 => ?_
    exact own_plain a1 a2 (by decide) (hQ s inv ⟨i, h1, h2⟩ fun _ _ e _ => e)
  plain := fun _ _ _ _ _ x => x
  there := fun V ds h b hx e => by (refine byEA (hx) fun i hp10 _ => ?_; (try clear hx); obtain ⟨oi, a1, a2, _⟩ := hp10); exact ⟨oi, e ▸ a1, priv_of a2 (by decide)⟩
  thereO := fun V ds v h b hx e => by (refine byEA (hx) fun i hp11 _ => ?_; (try clear hx); obtain ⟨oi, a1, a2, _⟩ := hp11); exact ⟨oi, e ▸ a1, priv_of a2 (by decide)⟩
  data := fun V ds h b hx e => by (refine byEAA (hx) fun i _ hp12 _ => ?_; (try clear hx); obtain ⟨ol, b1, b2, _⟩ := hp12); exact ⟨ol, e.2 ▸ b1, .inr (.inl b2)⟩
theorem EvI.list (O : B.Ok) {e : Expr} {ds : List D} (x : Ev B (k + 1) K Γ e (.list ds)) : EvI B (k + 1) K Γ e false ds := .mk fun A env V s Q E rm o i g h =>
  x.run A env V s _ E rm o i g fun v s₁ i₁ k₁ l₁ => by
    simp only [Lay] at l₁
    (refine byEA (l₁) fun a hq13 hr14 => ?_; (try clear l₁); subst hq13; refine byA (hr14) fun na hr15 => ?_; (try clear hr14); refine byEA (hr15) fun items il' ls => ?_; (try clear hr15))
    have il := il'.isList
    have kp : ∀ b o, s₁.heap.get? b = some o → (s₁.heap.push { cls := .type "list_iterator", data := .fields #[.ref a, .int 0 0] }).get? b = some o := fun b o e => Heap.get?_push_of_some _ e
    refine wpAny_pyIter_list (prog := B.prog) (w := B.w) il (h _ _ _ _ _ { s₁ with heap := s₁.heap.push { cls := .type "list_iterator", data := .fields #[.ref a, .int 0 0] } } (i₁.keep O (tk := s₁.toks) kp) (k₁.trans (.of kp)) (Iter.list O (rm.handled (Nat.succ_pos _)) (items := items) (ax := a) ?_ (O.size _ i₁.good) false) ⟨0, ⟨_, Heap.get?_push_size _ rfl, rfl, rfl⟩, il.push _, fun _ => na, ?_⟩ ?_ ?_)
    · (refine byEA (il) fun o ho _ => ?_; (try clear il)); exact Nat.ne_of_lt (Heap.lt_size ho)
    · exact ls.kp (.of kp)
    · rintro b rfl
      cases e : s.heap.get? s₁.heap.objs.size with
      | none => rfl
      | some o => refine byE ((k₁ _ _ e).ex) fun o' e' => ?_; exact absurd (Heap.lt_size e') (Nat.lt_irrefl _)
    · rintro b ⟨q, _⟩; cases q
theorem EvIB.list (O : B.Ok) {e : Expr} {ds : List D} (x : EvB B (k + 1) K Γ e (.list ds)) : EvIB B (k + 1) K Γ e ds := .mk fun A env V s Q E rm o i g h =>
  x.run A env V s _ E rm o i g fun v s₁ i₁ k₁ l₁ => by
    (refine byEEA (l₁.asList) fun a items hq16 hr17 => ?_; subst hq16; refine byA (hr17) fun il' ls => ?_; (try clear hr17))
    have il := il'.isList
    have kp : ∀ b o, s₁.heap.get? b = some o → (s₁.heap.push { cls := .type "list_iterator", data := .fields #[.ref a, .int 0 0] }).get? b = some o := fun b o e => Heap.get?_push_of_some _ e
    refine wpAny_pyIter_list (prog := B.prog) (w := B.w) il (h _ _ _ _ _ { s₁ with heap := s₁.heap.push { cls := .type "list_iterator", data := .fields #[.ref a, .int 0 0] } } (i₁.keep O (tk := s₁.toks) kp) (k₁.trans (.of kp)) (Iter.list O (rm.handled (Nat.succ_pos _)) (items := items) (ax := a) ?_ (O.size _ i₁.good) true) ⟨0, ⟨_, Heap.get?_push_size _ rfl, rfl, rfl⟩, il.push _, (fun q => nomatch q), ?_⟩ ?_)
    · (refine byEA (il) fun o ho _ => ?_; (try clear il)); exact Nat.ne_of_lt (Heap.lt_size ho)
    · exact ls.kp (.of kp)
    · rintro b rfl
      cases e : s.heap.get? s₁.heap.objs.size with
      | none => rfl
      | some o => refine byE ((k₁ _ _ e).ex) fun o' e' => ?_; exact absurd (Heap.lt_size e') (Nat.lt_irrefl _)
theorem EvI.tuple (O : B.Ok) {e : Expr} {ds : List D} (x : Ev B (k + 1) K Γ e (.tup ds)) : EvI B (k + 1) K Γ e false ds := .mk fun A env V s Q E rm o i g h =>
  x.run A env V s _ E rm o i g fun v s₁ i₁ k₁ l₁ => by
    simp only [Lay] at l₁
    (refine byEA (l₁) fun a hq18 hr19 => ?_; (try clear l₁); subst hq18; refine byA (hr19) fun na hr20 => ?_; (try clear hr19); refine byEA (hr20) fun items il' ls => ?_; (try clear hr20))
    have il := il'.isTuple
    have kp : ∀ b o, s₁.heap.get? b = some o → (s₁.heap.push { cls := .type "tuple_iterator", data := .fields #[.ref a, .int 0 0] }).get? b = some o := fun b o e => Heap.get?_push_of_some _ e
    refine wpAny_pyIter_tuple (prog := B.prog) (w := B.w) il (h _ _ _ _ _ { s₁ with heap := s₁.heap.push { cls := .type "tuple_iterator", data := .fields #[.ref a, .int 0 0] } } (i₁.keep O (tk := s₁.toks) kp) (k₁.trans (.of kp)) (Iter.tuple O (rm.handled (Nat.succ_pos _)) (items := items) (ax := a) ?_ (O.size _ i₁.good) false) ⟨0, ⟨_, Heap.get?_push_size _ rfl, rfl, rfl⟩, il.push _, fun _ => na, ?_⟩ ?_ ?_)
    · (refine byEA (il) fun o ho _ => ?_; (try clear il)); exact Nat.ne_of_lt (Heap.lt_size ho)
    · exact ls.kp (.of kp)
    · rintro b rfl
      cases e : s.heap.get? s₁.heap.objs.size with
      | none => rfl
      | some o => refine byE ((k₁ _ _ e).ex) fun o' e' => ?_; exact absurd (Heap.lt_size e') (Nat.lt_irrefl _)
    · rintro b ⟨q, _⟩; cases q
end
noncomputable def FnAt (B : Base) (name : Str) (params : Arguments) (body : List Stmt) (scope : Scope) : Prop :=
  ∃ a pm cd doc, B.mg name = some (.ref a) /\ ∀ h, B.good h -> (∃ o, h.get? a = some o /\ o.data = .func (docDef name params body scope pm cd doc)) /\ h.CodeRec cd name
section
variable {B : Base} {k : Nat} {K : Kinds} {Γ Γ' : G} {V W : Addr -> Prop} {h h' : Heap} {env : Env} {x : Str}
theorem pushCells_cells : ∀ (names : List (Str × NameKind)) (h : Heap) (acc : List (Str × Addr)), (∀ x c, (x, c) ∈ acc -> CellAt h c none) -> ∀ x c, (x, c) ∈ cellsFrom h.objs.size names acc -> CellAt (pushCells h names) c none
  | [], h, acc, ha, x, c, m => ha x c m
  | (n, kd) :: r, h, acc, ha, x, c, m => by
    unfold pushCells
    unfold cellsFrom at m
    split at m
    · rename_i hk
      rw [if_pos hk]
      have := pushCells_cells r (h.push { cls := .type "cell", data := .cell none }) ((n, h.objs.size) :: acc) (fun y c' m' => by
        rcases List.mem_cons.mp m' with e | m'
        · cases e; exact ⟨_, Heap.get?_push_size _ rfl, rfl, rfl⟩
        · refine byEA (ha y c' m') fun o h1 h2 => ?_; exact ⟨o, Heap.get?_push_of_some _ h1, h2⟩)
      rw [Heap.size_push] at this
      exact this x c m
    · rename_i hk
      rw [if_neg hk]
      exact pushCells_cells r h acc ha x c m
theorem cellsFrom_ge : ∀ (names : List (Str × NameKind)) (n lo : Nat) (acc : List (Str × Addr)), lo <= n -> (∀ x c, (x, c) ∈ acc -> lo <= c) -> ∀ x c, (x, c) ∈ cellsFrom n names acc -> lo <= c
  | [], n, lo, acc, hn, ha, x, c, m => ha x c m
  | (y, kd) :: r, n, lo, acc, hn, ha, x, c, m => by
    unfold cellsFrom at m
    split at m
    · exact cellsFrom_ge r (n + 1) lo _ (Nat.le_succ_of_le hn) (fun z c' m' => by
        rcases List.mem_cons.mp m' with e | m'
        · cases e; exact hn
        · exact ha z c' m') x c m
    · exact cellsFrom_ge r n lo acc hn ha x c m
theorem cellsFrom_has : ∀ (names : List (Str × NameKind)) (n : Nat) (acc : List (Str × Addr)) (x : Str), ((∃ c, acc.lookup x = some c) \/ (x, NameKind.cell) ∈ names) -> ∃ c, (cellsFrom n names acc).lookup x = some c
  | [], n, acc, x, hx => by
    rcases hx with hx | hx
    · exact hx
    · cases hx
  | (y, kd) :: r, n, acc, x, hx => by
    unfold cellsFrom
    split
    · rename_i hk
      refine cellsFrom_has r _ _ x ?_
      rw [List.lookup_cons]
      cases hy : x == y with
      | true => exact .inl ⟨_, rfl⟩
      | false =>
        refine hx.imp id fun m => ?_
        rcases List.mem_cons.mp m with e | m
        · injection e with e1 e2; rw [e1] at hy; simp at hy
        · exact m
    · rename_i hk
      refine cellsFrom_has r _ _ x (hx.imp id fun m => ?_)
      rcases List.mem_cons.mp m with e | m
      · injection e with e1 e2; exact absurd (by rw [<- e2]; rfl) hk
      · exact m
noncomputable def putAll : G -> List Str -> List D -> G
  | Γ, x :: xs, d :: ds => putAll (put Γ x (.sh d)) xs ds
  | Γ, _, _ => Γ
theorem bindParams (O : B.Ok) {A : Around} (f : Str × Value -> PUnit -> Sem (ForInStep PUnit)) (hf : ∀ n v u, f (n, v) u = (do storeName env n v; pure (.yield ⟨⟩))) (eo : EnvOk K env) {V₀ : Addr -> Prop} :
    ∀ (xs : List Str) (ds : List D) (vs : List Value) (Γ : G) (s : Shared) (Q : PUnit -> Shared -> Prop) (E : Value -> Shared -> Prop), Inv B A s -> Stm B V₀ W s.heap env Γ -> Lays B (fun b => V₀ b \/ W b) s.heap ds vs -> xs.length = ds.length -> (∀ x ∈ xs, K x = some .local \/ K x = some .cell) ->
      (∀ s', Inv B A s' -> Dom s.heap s'.heap -> Ext W s.heap W s'.heap -> Stm B V₀ W s'.heap env (putAll Γ xs ds) -> Q ⟨⟩ s') -> wpAny B.M A (forIn (xs.zip vs) ⟨⟩ f) Q E s
  | [], ds, vs, Γ, s, Q, E, i, st, l, hl, hk, hQ => by
    cases ds with
    | nil => rw [List.zip_nil_left, List.forIn_nil]; exact wpAny_pure (hQ s i (.refl _) (.refl _ _) st)
    | cons d ds => cases hl
  | x :: xs, [], vs, Γ, s, Q, E, i, st, l, hl, hk, hQ => by cases hl
  | x :: xs, d :: ds, vs, Γ, s, Q, E, i, st, l, hl, hk, hQ => by
    simp only [Lays] at l
    (refine byEEA (l) fun v r hq1 hr2 => ?_; (try clear l); subst hq1; refine byA (hr2) fun l1 l2 => ?_; (try clear hr2))
    rw [List.zip_cons_cons, List.forIn_cons, hf]
    refine wpAny_bind (wpAny_bind (store_stm O eo (hk x List.mem_cons_self) i st (sl := .sh d) l1 (fun _ _ e => nomatch e) fun s₁ i₁ d₁ e₁ st₁ => wpAny_pure ?_))
    exact bindParams O f hf eo xs ds r _ s₁ Q E i₁ st₁ (lays_ext l2 e₁) (by simpa using hl) (fun y hy => hk y (List.mem_cons_of_mem _ hy)) fun s₂ i₂ d₂ e₂ st₂ => hQ s₂ i₂ (d₁.trans d₂) (e₁.trans e₂ d₁) st₂
noncomputable def fnEnv (scope : Scope) (L a : Addr) (name : Str) (cd : Value) (cells : List (Str × Addr)) : Env :=
  { scope := scope, locals := L, globals := mainGlobals, cells := cells, qual := name ++ ".<locals>.", func := some a, code := cd, frame := some L, builtins := builtinsNs }
theorem fn_frame (O : B.Ok) {A : Around} {scope : Scope} {a : Addr} {name : Str} {cd : Value} {xs : List Str} {ds : List D} {vs : List Value} {s : Shared} {Q : Env -> Shared -> Prop} {E : Value -> Shared -> Prop}
    (hk : scope.kind = .function) (i : Inv B A s) (dm : ∀ b, V b -> ∃ o, s.heap.get? b = some o /\ ¬ IsPriv o) (ls : Lays B V s.heap ds vs) (hl : xs.length = ds.length) (hx : ∀ x ∈ xs, scope.names.lookup x = some .local \/ scope.names.lookup x = some .cell)
    (hQ : ∀ env s' W, env = fnEnv scope s.heap.objs.size a name cd env.cells -> Inv B A s' -> Kp s.heap s'.heap -> (∀ b, W b -> s.heap.get? b = none) -> EnvOk (fun y => scope.names.lookup y) env -> Stm B V W s'.heap env (putAll [] xs ds) -> Q env s') :
    wpAny B.M A (newFunctionEnv scope mainGlobals [] (xs.zip vs) (name ++ ".<locals>.") (some a) cd none builtinsNs) Q E s := by
  simp only [newFunctionEnv, Option.isSome_none, Bool.false_eq_true, if_false]
  refine wpAny_bind (wpAny_alloc ?_)
  refine wpAny_bind (wpAny_layCells _ (fun name kind cells => by cases hkc : kind == NameKind.cell <;> simp) _ _ _ _ ?_)
  rw [show ({ s with heap := s.heap.push { cls := .type "frame", data := .dict #[] } } : Shared).heap.objs.size = s.heap.objs.size + 1 from Heap.size_push ..]
  have ok := cellsFrom_ok scope.names (s.heap.push { cls := .type "frame", data := .dict #[] }) (s.heap.objs.size + 1) [] ⟨fun _ _ hm => (nomatch hm), List.Pairwise.nil⟩ (by rw [Heap.size_push]; exact Nat.le_refl _)
  have cc := pushCells_cells scope.names (s.heap.push { cls := .type "frame", data := .dict #[] }) [] (fun _ _ m => nomatch m)
  rw [Heap.size_push] at ok cc
  have hsz : B.n₀ <= s.heap.objs.size := O.size _ i.good
  have k1 : ∀ b o, s.heap.get? b = some o → (pushCells (s.heap.push { cls := .type "frame", data := .dict #[] }) scope.names).get? b = some o := fun b o e => pushCells_keeps _ _ _ _ (Heap.get?_push_of_some _ e)
  have hL : (pushCells (s.heap.push { cls := .type "frame", data := .dict #[] }) scope.names).get? s.heap.objs.size = some { cls := .type "frame", data := .dict #[] } := pushCells_keeps _ _ _ _ (Heap.get?_push_size _ rfl)
  have hge := cellsFrom_ge scope.names (s.heap.objs.size + 1) (s.heap.objs.size + 1) [] (Nat.le_refl _) (fun _ _ m => nomatch m)
  have eo : EnvOk (fun y => scope.names.lookup y) (fnEnv scope s.heap.objs.size a name cd (cellsFrom (s.heap.objs.size + 1) scope.names [])) := ⟨hk, rfl, rfl, fun _ => rfl⟩
  have Wn : ∀ b, (b = s.heap.objs.size \/ ∃ x, (x, b) ∈ cellsFrom (s.heap.objs.size + 1) scope.names []) -> s.heap.get? b = none := fun b q => by
    rcases q with rfl | ⟨x, m⟩
    · exact none_size (Nat.le_refl _)
    · exact none_size (Nat.le_of_succ_le (hge x b m))
  have i1 : Inv B A { s with heap := pushCells (s.heap.push { cls := .type "frame", data := .dict #[] }) scope.names } := i.keep O (tk := s.toks) k1
  have st1 : Stm B V (fun b => b = s.heap.objs.size ∨ ∃ x, (x, b) ∈ cellsFrom (s.heap.objs.size + 1) scope.names []) (pushCells (s.heap.push { cls := .type "frame", data := .dict #[] }) scope.names) (fnEnv scope s.heap.objs.size a name cd (cellsFrom (s.heap.objs.size + 1) scope.names [])) [] := by
    refine ⟨⟨fun b hb => ?_, (fun y sl e => nomatch e)⟩, fun b q => ?_, rfl, ⟨.inl rfl, _, _, _, hL, rfl, rfl, fun e he => by simp at he⟩, fun y c m => ⟨.inr ⟨y, m⟩, none, cc y c m⟩, ok.apart, fun y e => cellsFrom_has _ _ _ y (.inr (mem_of_lookup e)), (fun y a? d v e => nomatch e), (fun y z _ _ _ _ _ e => nomatch e)⟩
    · rcases hb with hb | rfl | ⟨x, m⟩
      · refine byEA (dm b hb) fun o e n => ?_; exact ⟨o, k1 b o e, n⟩
      · exact ⟨_, hL, fun q => q.2.1 rfl⟩
      · refine byEAA (cc x b m) fun o e c _ => ?_; exact ⟨o, e, fun q => q.2.2 c⟩
    · rcases q with rfl | ⟨x, m⟩
      · exact hsz
      · exact Nat.le_trans hsz (Nat.le_of_succ_le (hge x b m))
  have ls1 : Lays B (fun b => V b ∨ (b = s.heap.objs.size ∨ ∃ x, (x, b) ∈ cellsFrom (s.heap.objs.size + 1) scope.names [])) (pushCells (s.heap.push { cls := .type "frame", data := .dict #[] }) scope.names) ds vs :=
    ls.mono fun b o nb e _ => ⟨fun q => q.elim nb (fun z => by rw [Wn b z] at e; cases e), k1 b o e⟩
  refine wpAny_bind (bindParams (env := fnEnv scope s.heap.objs.size a name cd (cellsFrom (s.heap.objs.size + 1) scope.names [])) O _ (fun _ _ _ => rfl) eo xs ds vs [] _ _ _ i1 st1 ls1 hl hx fun s' i' d' e' st' => wpAny_pure ?_)
  refine hQ _ s' _ rfl i' (fun b o e => ?_) Wn eo st'
  exact e'.kp b o (fun q => by rw [Wn b q] at e; cases e) (k1 b o e)
noncomputable def Calls (B : Base) (k : Nat) (f : Str) (ds : List D) (d : D) : Prop := ∀ (A : Around) (V : Addr -> Prop) (s : Shared) (vs : List Value) (Q : Value -> Shared -> Prop) (E : Value -> Shared -> Prop),
  Room k A -> Inv B A s -> (∀ b, V b -> ∃ o, s.heap.get? b = some o /\ ¬ IsPriv o) -> Lays B V s.heap ds vs -> (∀ v s', Inv B A s' -> Kp s.heap s'.heap -> Lay B V s'.heap d v -> Q v s') ->
  ∃ a, B.mg f = some (.ref a) /\ wpAny B.M A (call (.ref a) vs) Q E s
noncomputable def Binds (B : Base) (name : Str) (params : Arguments) (body : List Stmt) (scope : Scope) (ds : List D) (xs : List Str) (ds' : List D) : Prop := ∀ (pm cd doc : Value) (A : Around) (V : Addr -> Prop) (s : Shared) (vs : List Value) (Q : List (Str × Value) -> Shared -> Prop) (E : Value -> Shared -> Prop),
  Inv B A s -> (∀ b, V b -> ∃ o, s.heap.get? b = some o /\ ¬ IsPriv o) -> Lays B V s.heap ds vs -> (∀ vs' s', Inv B A s' -> Kp s.heap s'.heap -> Lays B V s'.heap ds' vs' -> Q (xs.zip vs') s') -> wpAny B.M A (bindArgs (docDef name params body scope pm cd doc) ⟨vs, []⟩) Q E s
theorem len0 {P : List Value -> Prop} (k : P []) (vs : List Value) (h : vs.length = 0) : P vs := by
  cases vs with
  | nil => exact k
  | cons a l => cases h
theorem lenS {n : Nat} {P : List Value -> Prop} (k : ∀ a vs, vs.length = n -> P (a :: vs)) (vs : List Value) (h : vs.length = n + 1) : P vs := by
  cases vs with
  | nil => cases h
  | cons a l => exact k a l (Nat.succ.inj h)
theorem len1 {P : List Value -> Prop} (k : ∀ a, P [a]) : ∀ vs : List Value, vs.length = 1 -> P vs := lenS fun a => len0 (P := fun l => P (a :: l)) (k a)
theorem len2 {P : List Value -> Prop} (k : ∀ a b, P [a, b]) : ∀ vs : List Value, vs.length = 2 -> P vs := lenS fun a => len1 (P := fun l => P (a :: l)) (k a)
theorem len3 {P : List Value -> Prop} (k : ∀ a b c, P [a, b, c]) : ∀ vs : List Value, vs.length = 3 -> P vs := lenS fun a => len2 (P := fun l => P (a :: l)) (k a)
theorem Binds.plain {name : Str} {params : Arguments} {body : List Stmt} {scope : Scope} {ds : List D} {xs : List Str} (hb : ∀ pm cd doc vs, vs.length = xs.length -> bindArgs (docDef name params body scope pm cd doc) ⟨vs, []⟩ = pure (xs.zip vs)) (hl : xs.length = ds.length := by rfl) :
    Binds B name params body scope ds xs ds := fun pm cd doc A V s vs Q E i dm ls h => by
  rw [hb pm cd doc vs (ls.length.trans hl.symm)]
  exact wpAny_pure (h vs s i (.refl _) ls)
theorem Inv.in1 {A : Around} {s : Shared} (i : Inv B A s) : Inv B A.in1 s := ⟨i.good, i.gens, i.os, i.fr⟩
theorem Inv.of_in1 {A : Around} {s : Shared} (i : Inv B A.in1 s) : Inv B A s := ⟨i.good, i.gens, i.os, i.fr⟩
theorem Inv.deeper {A : Around} {s : Shared} {V₀ : Addr -> Prop} (i : Inv B A s) (eo : EnvOk K env) (st : Stm B V₀ W s.heap env Γ) : Inv B (A.deeper env) s := by
  refine byEA (i.fr) fun l e hl => ?_
  refine ⟨i.good, i.gens, i.os, env :: l, ?_, fun env' he => ?_⟩
  · show A.frames.map (env :: ·) = some (env :: l)
    rw [e]; rfl
  · rcases List.mem_cons.mp he with rfl | he
    · refine byAEEEAAA (st.loc) fun wl o es ep h1 h2 h3 _ => ?_
      exact ⟨by rw [eo.fn]; decide, env'.locals, o, es, ep, st.frame, st.hi _ wl, h1, h2, h3⟩
    · exact hl env' he
theorem Inv.shallow {A : Around} {s : Shared} (i : Inv B (A.deeper env) s) : Inv B A s := by
  refine byEA (i.fr) fun l e hl => ?_
  have e' : A.frames.map (env :: ·) = some l := e
  refine byEA (Option.map_eq_some_iff.mp e') fun l' e1 e2 => ?_
  exact ⟨i.good, i.gens, i.os, l', e1, fun env' he => hl env' (e2 ▸ List.mem_cons_of_mem _ he)⟩
theorem Room.deeper {A : Around} (r : Room (k + 1) A) (env : Env) : Room k (A.deeper env) := by
  obtain ⟨a, b, c⟩ := r
  refine ⟨?_, ?_, fun _ => c (Nat.succ_pos _)⟩
  · show A.depth + 1 + k < 1000
    omega
  · show A.units + 3 + 40 * k + 100 < 9900
    omega
theorem Room.in1 {A : Around} (r : Room (k + 1) A) : Room k A.in1 := by
  obtain ⟨a, b, c⟩ := r
  refine ⟨?_, ?_, fun _ => c (Nat.succ_pos _)⟩
  · show A.depth + k < 1000
    omega
  · show A.units + 1 + 40 * k + 100 < 9900
    omega
noncomputable def Out.val : Out -> D
  | .ret d => d
  | _ => .none
theorem Calls.of (O : B.Ok) {name : Str} {params : Arguments} {body : List Stmt} {scope : Scope} {ds ds' : List D} {xs : List Str} {o : Out} {Γ' : G} (F : FnAt B name params body scope) (hb : Binds B name params body scope ds xs ds') (hbrk : o ≠ .brk)
    (y : Ex B k (fun y => scope.names.lookup y) (putAll [] xs ds') body o Γ') (hl : xs.length = ds'.length := by rfl) (hx : ∀ x ∈ xs, scope.names.lookup x = some .local \/ scope.names.lookup x = some .cell := by decide)
    (hk : scope.kind = .function := by rfl) (hco : scope.isCoroutine = false := by rfl) (hgen : scope.isGenerator = false := by rfl) : Calls B (k + 1) name ds o.val := fun A V s vs Q E rm i dm ls h => by
  (refine byEE (F) fun a pm hr3 => ?_; (try clear F); refine byEEA (hr3) fun cd doc hm hh => ?_; (try clear hr3))
  refine ⟨a, hm, wpAny_call ?_⟩
  (refine byA (hh _ i.good) fun hp4 hcd => ?_; obtain ⟨ob, hob, hod⟩ := hp4)
  refine codeAny_call_function (body := body) (fd := docDef name params body scope pm cd doc) (prog := B.prog) (w := B.w) (by have := rm.depth; show A.depth < 1000; omega) hob hod hco hgen rfl hcd ?_
  refine hb pm cd doc A.in1 V s vs _ _ i.in1 dm ls fun vs' s₁ i₁ k₁ l₁ => ?_
  refine fn_frame O hk i₁ (fun b hb' => let ⟨o', e, n⟩ := dm b hb'; (k₁ b o' e).q.ex n) l₁ hl hx fun env s₂ W he i₂ k₂ wn eo st => ⟨O.nolimit _ i₂.good, ?_⟩
  have i₃ : Inv B (A.deeper env) s₂ := Inv.deeper i₂.of_in1 eo st
  refine codeAny_func (prog := B.prog) (w := B.w) (y.run (A.deeper env) env V W s₂ _ _ (rm.deeper env) eo i₃ st fun fl s₄ W₄ i₄ d₄ e₄ st₄ ou => ?_)
  have kk : Kp s.heap s₄.heap := (k₁.trans k₂).trans_off e₄.kp fun b o e q => by
    cases e1 : s₁.heap.get? b with
    | none => refine byE ((k₁ b o e).ex) fun _ z => ?_; rw [e1] at z; cases z
    | some _ => rw [wn b q] at e1; cases e1
  cases o with
  | next =>
    obtain rfl : fl = .next := ou
    exact h .none s₄ i₄.shallow kk rfl
  | brk => exact absurd rfl hbrk
  | ret d =>
    (refine byEA (ou) fun v hq5 lv => ?_; (try clear ou); subst hq5)
    exact h v s₄ i₄.shallow kk (lv.mono fun b o nb e _ => ⟨fun q => nb (.inl q), e⟩)
end
section
variable {B : Base} {k : Nat} {K : Kinds} {Γ Γ' : G} {V W : Addr -> Prop} {h h' : Heap} {env : Env} {x : Str}
noncomputable def BltAt (B : Base) (x : Str) (v : Value) : Prop := B.mg x = none ∧ bootBuiltins x = some v ∧ x ≠ "__name__"
theorem glob_blt (O : B.Ok) {A : Around} {x : Str} {v : Value} {p : Pos} {s : Shared} {Q : Value → Shared → Prop} {E : Value → Shared → Prop} (b : BltAt B x v) (hK : K x = some .globalImplicit) (eo : EnvOk K env) (i : Inv B A s) (h : Q v s) (hd : (x == ("__debug__" : Str)) = false := by decide) :
    wpAny B.M A (eval (.Name x p) env) Q E s := by
  refine Name_function_global eo.fn ((eo.kind x).trans hK) (loadGlobal_builtin (mg := B.mg) (mb := B.mb) ?_ b.1 ?_ ((O.blt x b.2.2).trans b.2.1) h) hd
  · rw [eo.glob]; exact O.g _ i.good
  · rw [eo.blt]; exact O.b _ i.good
theorem glob_fn (O : B.Ok) {A : Around} {x : Str} {v : Value} {p : Pos} {s : Shared} {Q : Value → Shared → Prop} {E : Value → Shared → Prop} (b : B.mg x = some v) (hK : K x = some .globalImplicit) (eo : EnvOk K env) (i : Inv B A s) (h : Q v s) (hd : (x == ("__debug__" : Str)) = false := by decide) :
    wpAny B.M A (eval (.Name x p) env) Q E s := by
  refine Name_function_global eo.fn ((eo.kind x).trans hK) (loadGlobal_global (mg := B.mg) ?_ b h) hd
  rw [eo.glob]; exact O.g _ i.good
noncomputable def LaysB (B : Base) (V : Addr -> Prop) (h : Heap) : List D -> List Value -> Prop
  | [], vs => vs = []
  | d :: l, vs => ∃ v r, vs = v :: r /\ LayB B V h d v /\ LaysB B V h l r
structure EvLB (B : Base) (k : Nat) (K : Kinds) (Γ : G) (es : List Expr) (ds : List D) : Prop where
  run : ∀ (p : Pos) (A : Around) (env : Env) (V : Addr -> Prop) (s : Shared) (Q : List Value -> Shared -> Prop) (E : Value -> Shared -> Prop),
  Room k A -> EnvOk K env -> Inv B A s -> EnvR B V s.heap env Γ ->
  (∀ vs s', Inv B A s' -> Kp s.heap s'.heap -> LaysB B V s'.heap ds vs -> Q vs s') -> wpAny B.M A (spliced (backTo p (starEach es env))) Q E s
theorem EvLB.nil : EvLB B k K Γ [] [] := .mk fun p A env V s Q E rm o i g h => by
  rw [starEach_nil]; exact Calls.spliced_nil (h [] s i (.refl _) rfl)
theorem EvLB.cons {e : Expr} {es : List Expr} {d : D} {ds : List D} (x : EvB B k K Γ e d) (y : EvLB B k K Γ es ds) (hn : notStar e = true := by rfl) : EvLB B k K Γ (e :: es) (d :: ds) := .mk fun p A env V s Q E rm o i g h => by
  rw [starEach_cons hn]
  show wpAny _ _ (spliced ((false, eval e env) :: backTo p (starEach es env))) Q E s
  exact Calls.spliced_cons (x.run A env V s _ E rm o i g fun v s₁ i₁ k₁ l₁ => y.run p A env V s₁ _ E rm o i₁ (g.kp k₁) fun vs s₂ i₂ k₂ l₂ => h (v :: vs) s₂ i₂ (k₁.trans k₂) ⟨v, vs, rfl, l₁.kp k₂, l₂⟩)
theorem starEach_plain : ∀ (es : List Expr) (env : Env) (p : Pos), noStars es = true -> (backTo p (starEach es env)).any (·.1) = false
  | [], env, p, _ => rfl
  | e :: r, env, p, h => by
    simp only [noStars, Bool.and_eq_true] at h
    rw [starEach_cons h.1]
    show (false || (backTo p (starEach r env)).any (·.1)) = false
    rw [starEach_plain r env p h.2]; rfl
theorem evalArgs_list {M : Model} {A : Around} {f : Value} {es : List Expr} {p : Pos} {s : Shared} {Q : Args -> Shared -> Prop} {E : Value -> Shared -> Prop} (hs : noStars es = true) (h : wpAny M A (spliced (backTo p (starEach es env))) (fun vs s' => Q ⟨vs, []⟩ s') E s) :
    wpAny M A (evalArgs f true (backTo p (starEach es env)) []) Q E s := by
  cases es with
  | nil =>
    unfold evalArgs
    show wpAny M A (spliced (backTo p (starEach [] env)) >>= _) Q E s
    refine wpAny_bind (wpAny_mono h (fun vs s' h' => ?_) fun _ _ x => x)
    refine wpAny_holding ?_
    exact wpAny_bind (wpAny_pure (wpAny_bind (wpAny_pure (wpAny_pure h'))))
  | cons e r =>
    simp only [noStars, Bool.and_eq_true] at hs
    rw [starEach_cons hs.1] at h ⊢
    exact evalArgs_plain h
theorem Ev.call (O : B.Ok) {f : Str} {p p' : Pos} {args : List Expr} {ds : List D} {d : D} (hK : K f = some .globalImplicit) (c : Calls B k f ds d) (F : ∃ params body scope, FnAt B f params body scope) (y : EvL B k K Γ args ds) (hs : noStars args = true := by rfl) (hd : (f == ("__debug__" : Str)) = false := by decide) :
    Ev B k K Γ (.Call (.Name f p) args [] p') d := .mk fun A env V s Q E rm eo i g h => by
  (refine byEE (F) fun params body hr1 => ?_; (try clear F); refine byEE (hr1) fun scope a hr2 => ?_; (try clear hr1); refine byEE (hr2) fun pm cd hr3 => ?_; (try clear hr2); refine byEA (hr3) fun doc hm hh => ?_; (try clear hr3))
  refine Call_ (glob_fn O hm hK eo i ?_ hd)
  (refine byA (hh _ i.good) fun hp4 _ => ?_; obtain ⟨o, ho, hod⟩ := hp4)
  unfold callWith
  refine wpAny_bind (wpAny_holding (evalArgs_list hs (y.run p' A env V s _ E rm eo i g fun vs s₁ i₁ k₁ l₁ => ?_)))
  refine wpAny_bind (wpAny_standAt ?_)
  (refine byA (hh _ i₁.good) fun hp5 _ => ?_; obtain ⟨o', ho', hod'⟩ := hp5)
  rw [starEach_plain args env p' hs]
  simp only [List.any_nil, Bool.or_false]
  refine wpAny_bind (m := keeperOf (.ref a)) ?_
  unfold keeperOf
  refine wpAny_bind (wpAny_load ho' ?_)
  rw [hod']
  refine wpAny_pure ?_
  refine byEA (c A V s₁ vs Q E rm i₁ (fun b hb => (g.kp k₁).domP b hb) l₁ fun v s₂ i₂ k₂ l₂ => h v s₂ i₂ (k₁.trans k₂) l₂) fun a' hm' hc => ?_
  rw [hm] at hm'; cases hm'
  have tail : ∀ {t : Sem Value}, wpAny B.M A t Q E s₁ -> wpAny B.M A (t >>= fun r => holding [r] point >>= fun _ => pure r) Q E s₁ :=
    fun ht => wpAny_bind (wpAny_mono ht (fun r s₂ hr => wpAny_bind (wpAny_holding (wpAny_point (wpAny_pure hr)))) fun _ _ x => x)
  dsimp only [List.nil_append]
  split
  · exact tail hc
  · exact tail (wpAny_keep hc)
noncomputable def BltR (B : Base) (k : Nat) (f : Value) (ds : List D) (d : D) : Prop := ∀ (A : Around) (V : Addr -> Prop) (s : Shared) (vs : List Value) (Q : Value -> Shared -> Prop) (E : Value -> Shared -> Prop),
  Room k A -> Inv B A s -> (∀ b, V b -> ∃ o, s.heap.get? b = some o /\ ¬ IsPriv o) -> LaysB B V s.heap ds vs -> (∀ v s', Inv B A s' -> Kp s.heap s'.heap -> Lay B V s'.heap d v -> Q v s') -> wpAny B.M A (call f vs) Q E s
noncomputable def BltF (B : Base) (k : Nat) (f : Value) (ds : List D) (d : D) : Prop := ∀ (A : Around) (V : Addr -> Prop) (s : Shared) (vs : List Value) (Q : Value -> Shared -> Prop) (E : Value -> Shared -> Prop),
  Room k A -> Inv B A s -> (∀ b, V b -> ∃ o, s.heap.get? b = some o /\ ¬ IsPriv o) -> LaysB B V s.heap ds vs -> (∀ a s', Inv B A s' -> Kp s.heap s'.heap -> s.heap.get? a = none -> B.n₀ <= a -> Content B (fun b => V b \/ b = a) s'.heap d a -> Q (.ref a) s') -> wpAny B.M A (call f vs) Q E s
noncomputable def isBlt : Value -> Bool
  | .builtin _ => true
  | .type _ => true
  | _ => false
theorem callWith_blt {M : Model} {A : Around} {f : Value} {first : List Value} {es : List Expr} {p : Pos} {s : Shared} {Q : Value -> Shared -> Prop} {E : Value -> Shared -> Prop} (hf : isBlt f = true) (hs : noStars es = true)
    (h : wpAny M A (spliced (backTo p (starEach es env))) (fun vs s' => wpAny M A (call f (first ++ vs)) Q E s') E s) : wpAny M A (callWith p f first (backTo p (starEach es env)) []) Q E s := by
  cases f with
  | builtin id => exact Calls.callWith_builtin (starEach_plain es env p hs) (evalArgs_list hs h)
  | type T => exact PyProof.Rows.callWith_type (starEach_plain es env p hs) (evalArgs_list hs h)
  | _ => cases hf
theorem Ev.blt (O : B.Ok) {x : Str} {f : Value} {p p' : Pos} {args : List Expr} {ds : List D} {d : D} (b : BltAt B x f) (hK : K x = some .globalImplicit) (y : EvLB B k K Γ args ds) (c : BltR B k f ds d) (hf : isBlt f = true := by rfl) (hs : noStars args = true := by rfl) (hd : (x == ("__debug__" : Str)) = false := by decide) :
    Ev B k K Γ (.Call (.Name x p) args [] p') d := .mk fun A env V s Q E rm eo i g h =>
  Call_ (glob_blt O b hK eo i (callWith_blt hf hs (y.run p' A env V s _ E rm eo i g fun vs s₁ i₁ k₁ l₁ => c A V s₁ vs Q E rm i₁ (fun b hb => (g.kp k₁).domP b hb) l₁ fun v s₂ i₂ k₂ l₂ => h v s₂ i₂ (k₁.trans k₂) l₂)) hd)
theorem EvF.blt (O : B.Ok) {x : Str} {f : Value} {p p' : Pos} {args : List Expr} {ds : List D} {d : D} (b : BltAt B x f) (hK : K x = some .globalImplicit) (y : EvLB B k K Γ args ds) (c : BltF B k f ds d) (hf : isBlt f = true := by rfl) (hs : noStars args = true := by rfl) (hd : (x == ("__debug__" : Str)) = false := by decide) :
    EvF B k K Γ (.Call (.Name x p) args [] p') d := .mk fun A env V s Q E rm eo i g h =>
  Call_ (glob_blt O b hK eo i (callWith_blt hf hs (y.run p' A env V s _ E rm eo i g fun vs s₁ i₁ k₁ l₁ => c A V s₁ vs Q E rm i₁ (fun b hb => (g.kp k₁).domP b hb) l₁ fun a s₂ i₂ k₂ n₂ lo c₂ => h a s₂ i₂ (k₁.trans k₂) (by
    cases e : s.heap.get? a with
    | none => rfl
    | some o => refine byE ((k₁ _ _ e).ex) fun o' e' => ?_; rw [n₂] at e'; cases e') lo c₂)) hd)
noncomputable def OfType (B : Base) (T : String) (d : D) : Prop := ∀ (V : Addr -> Prop) (s : Shared) (v : Value), LayB B V s.heap d v -> s.TypeIs v T /\ ∀ a, v = .ref a -> ∃ ob, s.heap.get? a = some ob /\ ob.dict = none
structure Meth (T : String) (name : Str) (id : String) : Prop where
  plain : PlainAttrs T
  slot : PySem.Slot T name id
  ty : typeOf (.builtin id) = pure (.type "method_descriptor")
theorem OfType.str {x : Str} : OfType B "str" (.str x) := fun V s v l => by
  (refine byE (l.asStr) fun t hq6 => ?_; subst hq6)
  exact ⟨rfl, fun a e => nomatch e⟩
theorem OfType.list {l : List D} : OfType B "list" (.list l) := fun V s v y => by
  (refine byEEA (y.asList) fun a items hq7 hr8 => ?_; subst hq7; refine byA (hr8) fun hp9 _ => ?_; (try clear hr8); obtain ⟨n, ho⟩ := hp9)
  exact ⟨⟨_, ho, rfl⟩, fun a' e => by cases e; exact ⟨_, ho, rfl⟩⟩
theorem meth_core {A : Around} {o : Expr} {name : Str} {ap p : Pos} {args : List Expr} {T id : String} {d₀ : D} {ds : List D} {s : Shared} {V : Addr -> Prop} {Q : Value -> Shared -> Prop} {E : Value -> Shared -> Prop}
    (x : EvB B k K Γ o d₀) (y : EvLB B k K Γ args ds) (m : Meth T name id) (t : OfType B T d₀) (hl : (ap.endLine == p.line) = true) (hb : ∀ env, attributeBase o name env (eval o env) = eval o env) (hs : noStars args = true) (hn : args.length < 30)
    (rm : Room k A) (eo : EnvOk K env) (i : Inv B A s) (g : EnvR B V s.heap env Γ)
    (h : ∀ vs s', Inv B A s' -> Kp s.heap s'.heap -> LaysB B V s'.heap (d₀ :: ds) vs -> wpAny B.M A (call (.builtin id) vs) Q E s') :
    wpAny B.M A (eval (.Call (.Attribute o name ap) args [] p) env) Q E s := by
  have len : (backTo p (starEach args env)).all (fun x => !x.1) = true := by
    have := starEach_plain args env p hs
    rw [List.all_eq_true]
    intro z hz
    have h2 := List.any_eq_false.mp this z hz
    simpa using h2
  refine wpAny_Call_method_lateS (hb env) (by rw [len]; simp [backToKw, keywordEach]; exact hn) hl (x.run A env V s _ E rm eo i g fun v s₁ i₁ k₁ l₁ => ?_)
  refine byA (t V s₁ v l₁) fun h1 h2 => ?_
  refine ⟨T, id, m.plain, m.slot, m.ty, h1, h2, ?_⟩
  exact callWith_blt rfl hs (y.run p A env V s₁ _ E rm eo i₁ (g.kp k₁) fun vs s₂ i₂ k₂ l₂ => h (v :: vs) s₂ i₂ (k₁.trans k₂) ⟨v, vs, rfl, l₁.kp k₂, l₂⟩)
theorem Ev.meth {o : Expr} {name : Str} {ap p : Pos} {args : List Expr} {T id : String} {d₀ : D} {ds : List D} {d : D} (x : EvB B k K Γ o d₀) (y : EvLB B k K Γ args ds) (m : Meth T name id) (t : OfType B T d₀) (c : BltR B k (.builtin id) (d₀ :: ds) d)
    (hl : (ap.endLine == p.line) = true := by rfl) (hb : ∀ env, attributeBase o name env (eval o env) = eval o env := by intro _; rfl) (hs : noStars args = true := by rfl) (hn : args.length < 30 := by decide) : Ev B k K Γ (.Call (.Attribute o name ap) args [] p) d := .mk fun A env V s Q E rm eo i g h =>
  meth_core x y m t hl hb hs hn rm eo i g fun vs s₁ i₁ k₁ l₁ => c A V s₁ vs Q E rm i₁ (fun b hb => (g.kp k₁).domP b hb) l₁ fun v s₂ i₂ k₂ l₂ => h v s₂ i₂ (k₁.trans k₂) l₂
theorem EvF.meth {o : Expr} {name : Str} {ap p : Pos} {args : List Expr} {T id : String} {d₀ : D} {ds : List D} {d : D} (x : EvB B k K Γ o d₀) (y : EvLB B k K Γ args ds) (m : Meth T name id) (t : OfType B T d₀) (c : BltF B k (.builtin id) (d₀ :: ds) d)
    (hl : (ap.endLine == p.line) = true := by rfl) (hb : ∀ env, attributeBase o name env (eval o env) = eval o env := by intro _; rfl) (hs : noStars args = true := by rfl) (hn : args.length < 30 := by decide) : EvF B k K Γ (.Call (.Attribute o name ap) args [] p) d := .mk fun A env V s Q E rm eo i g h =>
  meth_core x y m t hl hb hs hn rm eo i g fun vs s₁ i₁ k₁ l₁ => c A V s₁ vs Q E rm i₁ (fun b hb => (g.kp k₁).domP b hb) l₁ fun a s₂ i₂ k₂ n₂ lo c₂ => h a s₂ i₂ (k₁.trans k₂) (by
    cases e : s.heap.get? a with
    | none => rfl
    | some o => refine byE ((k₁ _ _ e).ex) fun o' e' => ?_; rw [n₂] at e'; cases e') lo c₂
end
noncomputable def clip (v : Option Int) (d : Nat) (n : Nat) : Nat := match v with
  | none => d
  | some i => (max 0 (min (if i < 0 then i + n else i) n)).toNat
noncomputable def cut {α : Type} (l : List α) (lo hi : Option Int) : List α := (l.take (clip hi l.length l.length)).drop (clip lo 0 l.length)
theorem filterMap_range {α : Type} (l : List α) : ∀ (k a : Nat), a + k <= l.length -> ((List.range k).map fun i => a + i).filterMap (l[·]?) = (l.take (a + k)).drop a
  | 0, a, h => by simp [List.drop_take]
  | k + 1, a, h => by
    rw [List.range_succ, List.map_append, List.filterMap_append, filterMap_range l k a (by omega)]
    have e : l[a + k]? = some (l[a + k]'(by omega)) := List.getElem?_eq_getElem (by omega)
    simp only [List.map_cons, List.map_nil, List.filterMap_cons, e, List.filterMap_nil]
    rw [show a + (k + 1) = (a + k) + 1 by omega, List.take_succ, e, List.drop_append_of_le_length (by simp; omega)]
    rfl
theorem clip_le (v : Option Int) (d n : Nat) (h : d <= n) : clip v d n <= n := by
  unfold clip
  cases v with
  | none => exact h
  | some i => exact Int.toNat_le.mpr (Int.max_le.mpr ⟨Int.natCast_nonneg _, Int.min_le_right _ _⟩)
theorem sliceRange_one {α : Type} (l : List α) (a b : Nat) (hb : b <= l.length) : (sliceRange (a : Int) (b : Int) 1).filterMap (l[·]?) = (l.take b).drop a := by
  unfold sliceRange
  simp only [Int.one_pos, gt_iff_lt, if_true]
  by_cases h : a < b
  · rw [if_pos (Int.ofNat_lt.mpr h), Int.add_sub_cancel, Int.ediv_one, Int.toNat_sub]
    have e2 : ((List.range (b - a)).map fun (k : Nat) => ((a : Int) + 1 * (k : Int)).toNat) = (List.range (b - a)).map fun i => a + i := List.map_congr_left fun k _ => by rw [Int.one_mul]; rfl
    have e3 : a + (b - a) = b := Nat.add_sub_cancel' (Nat.le_of_lt h)
    rw [e2, filterMap_range l (b - a) a (by rw [e3]; exact hb), e3]
  · rw [if_neg fun q => h (Int.ofNat_lt.mp q)]
    exact (List.drop_eq_nil_of_le (Nat.le_trans (List.length_take_le _ _) (Nat.not_lt.mp h))).symm
theorem clip_lo (lo : Option Int) (n : Nat) : (match lo with | none => (0 : Int) | some i => max 0 (min (if i < 0 then i + n else i) n)) = ((clip lo 0 n : Nat) : Int) := by
  unfold clip
  cases lo with
  | none => rfl
  | some i => exact (Int.toNat_of_nonneg (Int.le_max_left _ _)).symm
theorem clip_hi (hi : Option Int) (n : Nat) : (match hi with | none => (n : Int) | some i => max 0 (min (if i < 0 then i + n else i) n)) = ((clip hi n n : Nat) : Int) := by
  unfold clip
  cases hi with
  | none => rfl
  | some i => exact (Int.toNat_of_nonneg (Int.le_max_left _ _)).symm
theorem clip_nat (i d n : Nat) : clip (some (i : Int)) d n = min i n := by
  show (max 0 (min (if (i : Int) < 0 then (i : Int) + n else i) (n : Int))).toNat = _
  rw [if_neg (Int.not_lt.mpr (Int.natCast_nonneg _)), Int.max_eq_right (Int.le_min.mpr ⟨Int.natCast_nonneg _, Int.natCast_nonneg _⟩)]
  rcases Nat.le_total i n with h | h
  · rw [Int.min_eq_left (Int.ofNat_le.mpr h), Nat.min_eq_left h]; rfl
  · rw [Int.min_eq_right (Int.ofNat_le.mpr h), Nat.min_eq_right h]; rfl
theorem cut_drop {α : Type} (l : List α) (i : Nat) : cut l (some (i : Int)) none = l.drop i := by
  unfold cut
  rw [clip_nat]
  show (l.take l.length).drop _ = _
  rw [List.take_length]
  rcases Nat.le_total i l.length with h | h
  · rw [Nat.min_eq_left h]
  · rw [Nat.min_eq_right h, List.drop_length, List.drop_of_length_le h]
theorem cut_takes {α : Type} (l : List α) (i : Nat) : cut l none (some (i : Int)) = l.take i := by
  unfold cut
  rw [clip_nat]
  show (l.take _).drop 0 = _
  rw [List.drop_zero]
  rcases Nat.le_total i l.length with h | h
  · rw [Nat.min_eq_left h]
  · rw [Nat.min_eq_right h, List.take_length, List.take_of_length_le h]
theorem slicePick_cut (items : Array Value) (lo hi : Option Int) : (slicePick items lo hi none).toList = cut items.toList lo hi := by
  unfold slicePick cut
  have e : sliceBounds lo hi none items.size = (((clip lo 0 items.size : Nat) : Int), ((clip hi items.size items.size : Nat) : Int), 1) := by
    rw [<- clip_lo, <- clip_hi]
    unfold sliceBounds
    cases lo <;> cases hi <;> rfl
  rw [e]
  simp only [List.toList_toArray]
  have := sliceRange_one items.toList (clip lo 0 items.size) (clip hi items.size items.size) (by simp; exact clip_le _ _ _ (Nat.le_refl _))
  simp only [Array.getElem?_toList] at this
  rw [this]
  simp
theorem fm_map {α β : Type} {f : α -> Option β} {g : α -> β} : ∀ {l : List α}, (∀ x ∈ l, f x = some (g x)) -> l.filterMap f = l.map g
  | [], _ => rfl
  | x :: r, h => by rw [List.filterMap_cons, h x List.mem_cons_self, fm_map fun y hy => h y (List.mem_cons_of_mem _ hy)]; rfl
theorem slicePick_rev (items : Array Value) : (slicePick items none none (some (-1))).toList = items.toList.reverse := by
  unfold slicePick
  have e : sliceBounds none none (some (-1)) items.size = ((items.size : Int) - 1, -1, -1) := rfl
  rw [e]
  simp only [List.toList_toArray]
  unfold sliceRange
  simp only [gt_iff_lt]
  rw [if_neg (by decide)]
  have hc : (if (-1 : Int) < (items.size : Int) - 1 then ((items.size : Int) - 1 - -1 - -1 - 1) / (- -1) else 0).toNat = items.size := by
    split
    · rw [show (- -1 : Int) = 1 from rfl, Int.ediv_one]; omega
    · omega
  rw [hc]
  apply List.ext_getElem?
  intro i
  have e2 : ((List.range items.size).map fun (k : Nat) => ((items.size : Int) - 1 + -1 * (k : Int)).toNat).filterMap (items[·]?) = (List.range items.size).map fun k => items.toList.getD (items.size - 1 - k) .none := by
    rw [List.filterMap_map]
    apply fm_map
    intro k hk
    have hk' := List.mem_range.mp hk
    have hk2 : items.size - 1 - k < items.size := by omega
    simp only [Function.comp]
    rw [show ((items.size : Int) - 1 + -1 * (k : Int)).toNat = items.size - 1 - k by omega]
    rw [List.getD_eq_getElem?_getD]
    simp [hk2]
  rw [e2]
  by_cases hi : i < items.size
  · rw [List.getElem?_map, List.getElem?_range hi, List.getElem?_reverse (by simpa using hi)]
    have hk2 : items.size - 1 - i < items.size := by omega
    simp [List.getD_eq_getElem?_getD, hk2]
  · rw [List.getElem?_eq_none (by simp; omega), List.getElem?_eq_none (by simp; omega)]
noncomputable def notSlice : Expr -> Bool
  | .Slice .. => false
  | _ => true
section
variable {B : Base} {k : Nat} {K : Kinds} {Γ Γ' : G} {V W : Addr -> Prop} {h h' : Heap} {env : Env} {x : Str}
theorem sub_tail {prog : Program} {w : World} {A : Around} {E : Value -> Shared -> Prop} {s : Shared} {value slice : Expr} {o i : Value} {T id : String} {Q : Value -> Shared -> Prop} (hT : s.TypeIs o T)
    (hl : typeLookup (.type T) "__getitem__" = pure (some (.builtin id))) (h : wpAny (model prog w) A (getItem o i) Q E s)
    {ops : List Value} (hs : subscripted slice false o i = operate ops (getItem o i)) :
    wpAny (model prog w) A (subscriptTail value slice o i) Q E s := by
  unfold subscriptTail
  refine wpAny_bind ?_
  rw [getitemInPython_of_ne hT.not_modules]
  refine wpAny_bind (wpAny_specialOf hT hl ?_)
  have fin : wpAny (model prog w) A (subscripted slice false o i) (fun r s₃ => wpAny (model prog w) A (letTemporaryGo value o r >>= fun _ => pure r) Q E s₃) E s := by
    rw [hs]
    exact wpAny_operating (wpAny_mono h (fun r s₃ h₃ => wpAny_bind (wpAny_letTemporaryGo (wpAny_pure h₃))) fun _ _ x => x)
  first
    | exact wpAny_pure (wpAny_bind fin)
    | exact wpAny_bind (wpAny_pure (wpAny_bind fin))
    | exact wpAny_bind fin
noncomputable def SubR (B : Base) (k : Nat) (d₁ d₂ d : D) : Prop := ∀ (A : Around) (V : Addr -> Prop) (s : Shared) (o i : Value) (Q : Value -> Shared -> Prop) (E : Value -> Shared -> Prop),
  Room k A -> Inv B A s -> (∀ b, V b -> ∃ o, s.heap.get? b = some o) -> LayB B V s.heap d₁ o -> LayB B V s.heap d₂ i -> (∀ v s', Inv B A s' -> Kp s.heap s'.heap -> Lay B V s'.heap d v -> Q v s') ->
  ∃ T id, s.TypeIs o T ∧ typeLookup (.type T) "__getitem__" = pure (some (.builtin id)) ∧ wpAny B.M A (getItem o i) Q E s
theorem subscripted_plain {slice : Expr} (hs : notSlice slice = true) (o i : Value) : subscripted slice false o i = operate [o, i] (getItem o i) := by
  cases slice <;> first | rfl | exact nomatch (show false = true from hs)
theorem Ev.sub {value slice : Expr} {p : Pos} {d₁ d₂ d : D} (x : EvB B k K Γ value d₁) (y : EvB B k K Γ slice d₂) (z : SubR B k d₁ d₂ d) (hs : notSlice slice = true := by rfl) : Ev B k K Γ (.Subscript value slice p) d :=
  .mk fun A env V s Q E rm eo i g h => Subscript_ (x.run A env V s _ E rm eo i g fun v₁ s₁ i₁ k₁ l₁ => y.run A env V s₁ _ E rm eo i₁ (g.kp k₁) fun v₂ s₂ i₂ k₂ l₂ => by
    refine byEEAA (z A V s₂ v₁ v₂ Q E rm i₂ ((g.kp k₁).kp k₂).dom (l₁.kp k₂) l₂ fun v s₃ i₃ k₃ l₃ => h v s₃ i₃ ((k₁.trans k₂).trans k₃) l₃) fun T id hT hl hg => ?_
    exact sub_tail hT hl hg (subscripted_plain hs v₁ v₂))
theorem seqIndex_pos {n : Int} {z : Nat} (h0 : 0 <= n) (h : n.toNat < z) : seqIndex? n z = some n.toNat := by
  have e : ¬ (n < 0) := by omega
  have e' : n < z := by omega
  simp [seqIndex?, e, h0, e']
theorem SubR.list {l : List D} {n : Int} {d : D} (h0 : 0 <= n) (hz : n < 2 ^ 63) (hd : l[n.toNat]? = some d) : SubR B k (.list l) (.int n) d := fun A V s o i Q E rm inv dm x y h => by
  (refine byEEA (x.asList) fun a items hq1 hr2 => ?_; subst hq1; refine byA (hr2) fun il ls => ?_; (try clear hr2))
  (refine byE (y.asInt) fun t hq3 => ?_; subst hq3)
  refine byEA (ls.get hd) fun v hv lv => ?_
  exact ⟨"list", _, il.isList.typeIs, F.slot_list_getitem.lookup, wpAny_getItem_list (prog := B.prog) (w := B.w) il.isList h0 hz (by simpa using hv) (h v s inv (.refl _) lv)⟩
theorem SubR.listNeg {l : List D} {n : Int} {d : D} (h0 : n < 0) (hz : -(l.length : Int) <= n) (hz' : -2 ^ 63 <= n) (hd : l[(n + l.length).toNat]? = some d) : SubR B k (.list l) (.int n) d := fun A V s o i Q E rm inv dm x y h => by
  (refine byEEA (x.asList) fun a items hq4 hr5 => ?_; subst hq4; refine byA (hr5) fun il ls => ?_; (try clear hr5))
  (refine byE (y.asInt) fun t hq6 => ?_; subst hq6)
  refine byEA (ls.get hd) fun v hv lv => ?_
  have hsz : items.size = l.length := by rw [<- ls.length]; simp
  exact ⟨"list", _, il.isList.typeIs, F.slot_list_getitem.lookup, wpAny_getItem_list_neg (prog := B.prog) (w := B.w) il.isList h0 (by rw [hsz]; exact hz) hz' (by rw [hsz]; simpa using hv) (h v s inv (.refl _) lv)⟩
theorem SubR.tup {l : List D} {n : Int} {d : D} (h0 : 0 <= n) (hz : n < 2 ^ 63) (hd : l[n.toNat]? = some d) : SubR B k (.tup l) (.int n) d := fun A V s o i Q E rm inv dm x y h => by
  (refine byEEA (x.asTup) fun a items hq7 hr8 => ?_; subst hq7; refine byA (hr8) fun il ls => ?_; (try clear hr8))
  (refine byE (y.asInt) fun t hq9 => ?_; subst hq9)
  refine byEA (ls.get hd) fun v hv lv => ?_
  have hsz : items.size = l.length := by rw [<- ls.length]; simp
  have hn : n.toNat < l.length := by
    refine byE (List.getElem?_eq_some_iff.mp hd) fun q _ => ?_
    exact q
  refine ⟨"tuple", _, il.isTuple.typeIs, F.slot_tuple_getitem.lookup, PyProof.Rows.getItem_tuple (prog := B.prog) (w := B.w) (j := n.toNat) il.isTuple (by omega) hz ?_ (by simpa using hv) (h v s inv (.refl _) lv)⟩
  rw [hsz]
  exact seqIndex_pos h0 hn
theorem EvF.list (O : B.Ok) {es : List Expr} {ds : List D} {p : Pos} (x : EvL B k K Γ es ds) (hz : ds.length <= sizeLine := by decide) : EvF B k K Γ (.List es p) (.list ds) := .mk fun A env V s Q E rm eo i g h =>
  wpAny_List (x.run p A env V s _ E rm eo i g fun vs s₁ i₁ k₁ l₁ => by
    refine ⟨by rw [l₁.length]; exact hz, ?_⟩
    have kp : ∀ b o, s₁.heap.get? b = some o → (s₁.heap.push { cls := .type "list", data := .seq vs.toArray }).get? b = some o := fun b o e => Heap.get?_push_of_some _ e
    have nz : ∀ b, s₁.heap.get? b = none -> s.heap.get? b = none := fun b e => by
      cases q : s.heap.get? b with
      | none => rfl
      | some o => refine byE ((k₁ b o q).ex) fun o' e' => ?_; rw [e] at e'; cases e'
    refine h _ { s₁ with heap := s₁.heap.push { cls := .type "list", data := .seq vs.toArray } } (i₁.keep O (tk := s₁.toks) kp) (k₁.trans (.of kp)) (nz _ (none_size (Nat.le_refl _))) (O.size _ i₁.good) ⟨vs.toArray, ⟨_, Heap.get?_push_size _ rfl⟩, ?_⟩
    exact l₁.mono fun b o nb e _ => ⟨fun q => q.elim nb (fun z => by rw [z, none_size (Nat.le_refl _)] at e; cases e), kp b o e⟩)
theorem Ev.tup (O : B.Ok) {es : List Expr} {ds : List D} {n : Nat} {p : Pos} (x : EvL B k K Γ es ds) (hz : ds.length <= sizeLine := by decide) : Ev B k K Γ (.Tuple es n p) (.tup ds) := .mk fun A env V s Q E rm eo i g h =>
  wpAny_Tuple (x.run p A env V s _ E rm eo i g fun vs s₁ i₁ k₁ l₁ => by
    refine ⟨by rw [l₁.length]; exact hz, ?_⟩
    have kp : ∀ b o, s₁.heap.get? b = some o → (s₁.heap.push { cls := .type "tuple", data := .seq vs.toArray }).get? b = some o := fun b o e => Heap.get?_push_of_some _ e
    refine h _ { s₁ with heap := s₁.heap.push { cls := .type "tuple", data := .seq vs.toArray } } (i₁.keep O (tk := s₁.toks) kp) (k₁.trans (.of kp)) ?_
    simp only [Lay]
    refine ⟨_, rfl, fun q => ?_, vs.toArray, ⟨_, Heap.get?_push_size _ rfl⟩, ?_⟩
    · refine byE ((g.kp k₁).dom _ q) fun o e => ?_
      exact absurd (Heap.lt_size e) (Nat.lt_irrefl _)
    · exact l₁.kp (.of kp))
end
section
variable {B : Base} {k : Nat} {K : Kinds} {Γ Γ' : G} {V W : Addr -> Prop} {h h' : Heap} {env : Env} {x : Str} {A : Around} {s : Shared}
noncomputable def newSeq (s : Shared) (items : Array Value) : Shared := { s with heap := s.heap.push { cls := .type "list", data := .seq items } }
theorem fresh_of {b : Addr} (k : Kp h h') (e : h'.get? b = none) : h.get? b = none := by
  cases q : h.get? b with
  | none => rfl
  | some o => refine byE ((k b o q).ex) fun o' e' => ?_; rw [e] at e'; cases e'
theorem newList (O : B.Ok) (i : Inv B A s) {ds : List D} {items : Array Value} (l : Lays B V s.heap ds items.toList) :
    Inv B A (newSeq s items) /\ Kp s.heap (newSeq s items).heap /\ s.heap.get? s.heap.objs.size = none /\ B.n₀ <= s.heap.objs.size /\ Content B (fun b => V b \/ b = s.heap.objs.size) (newSeq s items).heap (.list ds) s.heap.objs.size := by
  have kp : ∀ b o, s.heap.get? b = some o → (s.heap.push { cls := .type "list", data := .seq items }).get? b = some o := fun b o e => Heap.get?_push_of_some _ e
  refine ⟨i.keep O (tk := s.toks) kp, .of kp, none_size (Nat.le_refl _), O.size _ i.good, items, ⟨_, Heap.get?_push_size _ rfl⟩, ?_⟩
  exact l.mono fun b o nb e _ => ⟨fun q => q.elim nb (fun z => by rw [z, none_size (Nat.le_refl _)] at e; cases e), kp b o e⟩
theorem Lays.reverse : ∀ {l : List D} {vs : List Value}, Lays B V h l vs -> Lays B V h l.reverse vs.reverse
  | [], vs, x => by simp only [Lays] at x; subst x; simp [Lays]
  | d :: l, vs, x => by
    simp only [Lays] at x; (refine byEEA (x) fun v r hq1 hr2 => ?_; (try clear x); subst hq1; refine byA (hr2) fun y z => ?_; (try clear hr2))
    rw [List.reverse_cons, List.reverse_cons]
    exact (Lays.reverse z).append (.one y)
theorem Lays.cut {l : List D} {vs : List Value} (x : Lays B V h l vs) (lo hi : Option Int) : Lays B V h (cut l lo hi) (cut vs lo hi) := by
  unfold Jv.cut
  rw [x.length]
  exact Lays.drop _ (Lays.take _ x)
theorem subT_slice {prog : Program} {w : World} {E : Value -> Shared -> Prop} {value : Expr} {o i : Value} {lo hi st : Option Expr} {p : Pos} {T id : String} {Q : Value -> Shared -> Prop} (hT : s.TypeIs o T)
    (hl : typeLookup (.type T) "__getitem__" = pure (some (.builtin id))) (h : wpAny (model prog w) A (getItem o i) Q E s) : wpAny (model prog w) A (subscriptTail value (.Slice lo hi st p) o i) Q E s := by
  cases st with
  | none => exact sub_tail hT hl h (ops := [i, o]) rfl
  | some e => exact sub_tail hT hl h (ops := [o, i]) rfl
inductive EvP (B : Base) (k : Nat) (K : Kinds) (Γ : G) : Option Expr -> Option Int -> Prop
  | none : EvP B k K Γ none none
  | some {e : Expr} {i : Int} (x : Ev B k K Γ e (.int i)) : EvP B k K Γ (some e) (some i)
theorem EvP.run {e : Option Expr} {o : Option Int} (x : EvP B k K Γ e o) {Q : Value -> Shared -> Prop} {E : Value -> Shared -> Prop} (rm : Room k A) (eo : EnvOk K env) (i : Inv B A s) (g : EnvR B V s.heap env Γ)
    (h : ∀ (q : Option (Int × Tok)) s', q.map (·.1) = o -> Inv B A s' -> Kp s.heap s'.heap -> Q (partValue q) s') : wpAny B.M A (evalPart e env) Q E s := by
  cases x with
  | none => rw [evalPart_none]; exact wpAny_pure (h Option.none s rfl i (.refl _))
  | some x =>
    rw [evalPart_some]
    refine x.run A env V s Q E rm eo i g fun v s₁ i₁ k₁ l₁ => ?_
    simp only [Lay] at l₁
    (refine byE (l₁) fun t hq3 => ?_; (try clear l₁); subst hq3)
    exact h (Option.some (_, t)) s₁ rfl i₁ k₁
theorem isPart_of (q : Option (Int × Tok)) : IsPart (partValue q) (q.map (·.1)) := by
  cases q with
  | none => exact .none
  | some p => exact .int p.1 p.2
noncomputable def newSlice (s : Shared) (l u st : Value) : Shared := { s with heap := s.heap.push { cls := .type "slice", data := .fields #[l, u, st] } }
theorem EvF.slice (O : B.Ok) {value : Expr} {lo hi : Option Expr} {p q : Pos} {l : List D} {a b : Option Int} (x : EvB B k K Γ value (.list l)) (y : EvP B k K Γ lo a) (z : EvP B k K Γ hi b) (hz : l.length <= sizeLine) :
    EvF B k K Γ (.Subscript value (.Slice lo hi none p) q) (.list (cut l a b)) := .mk fun A env V s Q E rm eo i g h =>
  Subscript_ (x.run A env V s _ E rm eo i g fun v₁ s₁ i₁ k₁ l₁ => wpAny_Slice (y.run rm eo i₁ (g.kp k₁) fun pl s₂ e₂ i₂ k₂ => z.run rm eo i₂ ((g.kp k₁).kp k₂) fun pu s₃ e₃ i₃ k₃ => by
    rw [evalPart_none]
    apply wpAny_pure
    (refine byEEA (((l₁.kp k₂).kp k₃).asList) fun a items hq4 hr5 => ?_; subst hq4; refine byA (hr5) fun il ls => ?_; (try clear hr5))
    have kp : ∀ b o, s₃.heap.get? b = some o -> (newSlice s₃ (partValue pl) (partValue pu) .none).heap.get? b = some o := fun b o e => Heap.get?_push_of_some _ e
    have i₄ : Inv B A (newSlice s₃ (partValue pl) (partValue pu) .none) := i₃.keep O (tk := s₃.toks) kp
    have l₄ := ls.kp (.of kp)
    have il₄ := il.isList.push { cls := .type "slice", data := .fields #[partValue pl, partValue pu, .none] }
    have k₄ : Kp s.heap (newSlice s₃ (partValue pl) (partValue pu) .none).heap := ((k₁.trans k₂).trans k₃).trans (.of kp)
    refine subT_slice (T := "list") (s := newSlice s₃ (partValue pl) (partValue pu) .none) il₄.typeIs F.slot_list_getitem.lookup (wpAny_getItem_list_slice (s := newSlice s₃ (partValue pl) (partValue pu) .none) il₄ (Heap.IsSliceOf.new ..) (isPart_of pl) (isPart_of pu) .none (by simp) ?_ (by rw [show items.size = l.length by rw [← ls.length]; simp]; exact hz))
    have ll : Lays B V (newSlice s₃ (partValue pl) (partValue pu) .none).heap (cut l (pl.map (·.1)) (pu.map (·.1))) (slicePick items (pl.map (·.1)) (pu.map (·.1)) none).toList := by
      rw [slicePick_cut]
      exact l₄.cut _ _
    rw [e₂, e₃] at ll ⊢
    refine byAAAA (newList O i₄ ll) fun i₅ k₅ f₅ n₅ c₅ => ?_
    exact h _ _ i₅ (k₄.trans k₅) (fresh_of k₄ f₅) n₅ c₅))
theorem EvF.rev (O : B.Ok) {value : Expr} {c : Nat} {p q p₁ p₂ : Pos} {l : List D} (x : EvB B k K Γ value (.list l)) (hz : l.length <= sizeLine) :
    EvF B k K Γ (.Subscript value (.Slice none none (some (.UnaryOp .USub (.Constant (.int 1) c p₁) p₂)) p) q) (.list l.reverse) := .mk fun A env V s Q E rm eo i g h =>
  Subscript_ (x.run A env V s _ E rm eo i g fun v₁ s₁ i₁ k₁ l₁ => wpAny_Slice (by
    rw [evalPart_none]
    refine wpAny_pure (wpAny_pure ?_)
    rw [evalPart_some]
    refine wpAny_UnaryOp ((Ev.cint : Ev B k K Γ (.Constant (.int 1) c p₁) (.int 1)).run A env V s₁ _ E rm eo i₁ (g.kp k₁) fun v₂ s₂ i₂ k₂ l₂ => ?_)
    simp only [Lay] at l₂
    (refine byE (l₂) fun t hq6 => ?_; (try clear l₂); subst hq6)
    refine neg_int ?_
    have i₃ := i₂.tok (s₂.toks + 1)
    generalize hs₃ : ({ s₂ with toks := s₂.toks + 1 } : Shared) = s₃ at i₃ ⊢
    have hh : s₃.heap = s₂.heap := by rw [<- hs₃]
    (refine byEEA ((l₁.kp k₂).asList) fun a items hq7 hr8 => ?_; subst hq7; refine byA (hr8) fun il ls => ?_; (try clear hr8))
    rw [<- hh] at il ls
    have kp : ∀ b o, s₃.heap.get? b = some o -> (newSlice s₃ .none .none (.int (-1) s₂.toks)).heap.get? b = some o := fun b o e => Heap.get?_push_of_some _ e
    have i₄ : Inv B A (newSlice s₃ .none .none (.int (-1) s₂.toks)) := i₃.keep O (tk := s₃.toks) kp
    have l₄ := ls.kp (.of kp)
    have il₄ := il.isList.push { cls := .type "slice", data := .fields #[.none, .none, .int (-1) s₂.toks] }
    have k₄ : Kp s.heap (newSlice s₃ .none .none (.int (-1) s₂.toks)).heap := (k₁.trans (hh ▸ k₂)).trans (.of kp)
    refine subT_slice (T := "list") (s := newSlice s₃ .none .none (.int (-1) s₂.toks)) il₄.typeIs F.slot_list_getitem.lookup (wpAny_getItem_list_slice (s := newSlice s₃ .none .none (.int (-1) s₂.toks)) il₄ (Heap.IsSliceOf.new ..) .none .none (.int (-1) s₂.toks) (by simp) ?_ (by rw [show items.size = l.length by rw [← ls.length]; simp]; exact hz))
    have ll : Lays B V (newSlice s₃ .none .none (.int (-1) s₂.toks)).heap l.reverse (slicePick items none none (some (-1))).toList := by
      rw [slicePick_rev]
      exact l₄.reverse
    refine byAAAA (newList O i₄ ll) fun i₅ k₅ f₅ n₅ c₅ => ?_
    exact h _ _ i₅ (k₄.trans k₅) (fresh_of k₄ f₅) n₅ c₅))
noncomputable def cutS (x : Str) (lo hi : Option Int) : Str := ⟨(cut x.cps.toList lo hi).toArray⟩
theorem txt_slice (x : Str) (lo hi : Option Int) : Txt.slice x lo hi = cutS x lo hi := by
  have e : Builtin.Str.strSliceIndices lo hi 1 x.length = sliceRange ((clip lo 0 x.length : Nat) : Int) ((clip hi x.length x.length : Nat) : Int) 1 := by
    rw [<- clip_lo, <- clip_hi]
    unfold Builtin.Str.strSliceIndices
    cases lo <;> cases hi <;> rfl
  have hb : clip hi x.length x.length <= x.cps.toList.length := by rw [Array.length_toList]; exact clip_le hi _ _ (Nat.le_refl _)
  have f := sliceRange_one x.cps.toList (clip lo 0 x.length) (clip hi x.length x.length) hb
  unfold Txt.slice
  split
  · rename_i hc
    rw [e] at hc
    simp only [beq_self_eq_true, Bool.true_and, beq_iff_eq] at hc
    unfold cutS cut
    have hl : x.cps.toList.length = x.length := by simp [Str.length]
    rw [hl]
    have h1 : clip lo 0 x.length = 0 \/ x.length = 0 := by
      unfold sliceRange at hc
      simp only [Int.one_pos, gt_iff_lt, if_true, List.length_map, List.length_range] at hc
      have := clip_le hi x.length x.length (Nat.le_refl _)
      split at hc <;> omega
    have h2 : clip hi x.length x.length = x.length \/ x.length = 0 := by
      unfold sliceRange at hc
      simp only [Int.one_pos, gt_iff_lt, if_true, List.length_map, List.length_range] at hc
      have := clip_le hi x.length x.length (Nat.le_refl _)
      split at hc <;> omega
    have h3 : (x.cps.toList.take (clip hi x.length x.length)).drop (clip lo 0 x.length) = x.cps.toList := by
      by_cases hx : x.length = 0
      · have : x.cps.toList = [] := List.eq_nil_of_length_eq_zero (by rw [hl]; exact hx)
        rw [this]; simp
      · rw [h1.resolve_right hx, h2.resolve_right hx, <- hl, List.drop_zero, List.take_length]
    rw [h3]
  · rw [e]
    unfold cutS cut
    simp only [Array.getElem?_toList] at f
    rw [f]
    rfl
theorem cutS_le (x : Str) (lo hi : Option Int) : (cutS x lo hi).length <= x.length := by rw [<- txt_slice]; exact Txt.slice_le x lo hi
theorem Ev.slice (O : B.Ok) {value : Expr} {lo hi : Option Expr} {p q : Pos} {l : Str} {a b : Option Int} (x : EvB B k K Γ value (.str l)) (y : EvP B k K Γ lo a) (z : EvP B k K Γ hi b) (hz : l.length <= sizeLine) :
    Ev B k K Γ (.Subscript value (.Slice lo hi none p) q) (.str (cutS l a b)) := .mk fun A env V s Q E rm eo i g h =>
  Subscript_ (x.run A env V s _ E rm eo i g fun v₁ s₁ i₁ k₁ l₁ => wpAny_Slice (y.run rm eo i₁ (g.kp k₁) fun pl s₂ e₂ i₂ k₂ => z.run rm eo i₂ ((g.kp k₁).kp k₂) fun pu s₃ e₃ i₃ k₃ => by
    rw [evalPart_none]
    apply wpAny_pure
    (refine byE (l₁.asStr) fun t hq9 => ?_; subst hq9)
    have kp : ∀ b o, s₃.heap.get? b = some o -> (newSlice s₃ (partValue pl) (partValue pu) .none).heap.get? b = some o := fun b o e => Heap.get?_push_of_some _ e
    have i₄ : Inv B A (newSlice s₃ (partValue pl) (partValue pu) .none) := i₃.keep O (tk := s₃.toks) kp
    have k₄ : Kp s.heap (newSlice s₃ (partValue pl) (partValue pu) .none).heap := ((k₁.trans k₂).trans k₃).trans (.of kp)
    refine subT_slice (T := "str") (s := newSlice s₃ (partValue pl) (partValue pu) .none) rfl F.slot_str_getitem.lookup (wpAny_getItem_str_slice (s := newSlice s₃ (partValue pl) (partValue pu) .none) (l := pl) (u := pu) (st := none) ⟨_, Heap.get?_push_size _ rfl, rfl, rfl⟩ rfl (post_val_or_str ⟨?_, fun t' tk => ?_⟩))
    · exact Nat.le_trans (Txt.slice_le l _ _) hz
    · refine h _ _ (i₄.tok tk) k₄ ⟨t', ?_⟩
      show Value.str (Txt.slice l (pl.map (·.1)) (pu.map (·.1))) t' = _
      rw [txt_slice, e₂, e₃]))
end
section
variable {B : Base} {k : Nat} {K : Kinds} {Γ Γ' : G} {V W : Addr -> Prop} {h h' : Heap} {env : Env} {A : Around} {s : Shared}
noncomputable def dget (l : List (Str × D)) (x : Str) : Option D := (l.find? fun p => p.1 = x).map (·.2)
noncomputable def dput (l : List (Str × D)) (x : Str) (d : D) : List (Str × D) :=
  if l.any (fun p => p.1 = x) then l.map (fun p => if p.1 = x then (p.1, d) else p) else l ++ [(x, d)]
theorem LayB.asDict' {l : List (Str × D)} {v : Value} (x : LayB B V h (.dict l) v) : ∃ a, v = .ref a /\ B.n₀ <= a /\ ∃ kvs, h.DictOf (PySem.strKind B.prog B.w) a kvs /\ Layd B V h l kvs := by
  rcases x with x | ⟨a, e, lo, kvs, r⟩
  · simp only [Lay] at x; (refine byEAAA (x) fun a e _ lo hr1 => ?_; (try clear x); refine byE (hr1) fun kvs r => ?_; (try clear hr1)); exact ⟨a, e, lo, kvs, r⟩
  · exact ⟨a, e, lo, kvs, r⟩
theorem Layd.length : ∀ {l : List (Str × D)} {kvs : List (Str × Value)}, Layd B V h l kvs -> kvs.length = l.length
  | [], kvs, x => by simp only [Layd] at x; subst x; rfl
  | (y, d) :: l, kvs, x => by simp only [Layd] at x; (refine byEEA (x) fun v r hq2 hr3 => ?_; (try clear x); subst hq2; refine byA (hr3) fun _ z => ?_; (try clear hr3)); simp [z.length]
theorem Layd.keys : ∀ {l : List (Str × D)} {kvs : List (Str × Value)}, Layd B V h l kvs -> kvs.map (·.1) = l.map (·.1)
  | [], kvs, x => by simp only [Layd] at x; subst x; rfl
  | (y, d) :: l, kvs, x => by simp only [Layd] at x; (refine byEEA (x) fun v r hq4 hr5 => ?_; (try clear x); subst hq4; refine byA (hr5) fun _ z => ?_; (try clear hr5)); simp [z.keys]
theorem Layd.vals : ∀ {l : List (Str × D)} {kvs : List (Str × Value)}, Layd B V h l kvs -> Lays B V h (l.map (·.2)) (kvs.map (·.2))
  | [], kvs, x => by simp only [Layd] at x; subst x; simp [Lays]
  | (y, d) :: l, kvs, x => by simp only [Layd] at x; (refine byEEA (x) fun v r hq6 hr7 => ?_; (try clear x); subst hq6; refine byA (hr7) fun q z => ?_; (try clear hr7)); simp only [List.map_cons, Lays]; exact ⟨v, _, rfl, q, z.vals⟩
theorem Layd.get : ∀ {l : List (Str × D)} {kvs : List (Str × Value)} (x : Str), Layd B V h l kvs -> (∀ d, dget l x = some d -> ∃ v, valueAt kvs x = some v /\ Lay B V h d v) /\ (dget l x = none -> valueAt kvs x = none)
  | [], kvs, x, q => by simp only [Layd] at q; subst q; exact ⟨fun d e => by simp [dget] at e, fun _ => rfl⟩
  | (y, d) :: l, kvs, x, q => by
    simp only [Layd] at q
    (refine byEEA (q) fun v r hq8 hr9 => ?_; (try clear q); subst hq8; refine byA (hr9) fun q1 q2 => ?_; (try clear hr9))
    have ih := q2.get x
    by_cases e : y = x
    · refine ⟨fun d' hd => ⟨v, ?_, ?_⟩, fun hn => ?_⟩
      · simp [valueAt, e]
      · simp [dget, e] at hd; subst hd; exact q1
      · simp [dget, e] at hn
    · have e1 : dget ((y, d) :: l) x = dget l x := by simp [dget, e]
      have e2 : valueAt ((y, v) :: r) x = valueAt r x := by simp [valueAt, e]
      rw [e1, e2]
      exact ih
theorem Layd.map1 {x : Str} {d : D} {v : Value} (w : Lay B V h d v) : ∀ {l : List (Str × D)} {kvs : List (Str × Value)}, Layd B V h l kvs -> Layd B V h (l.map fun p => if p.1 = x then (p.1, d) else p) (kvs.map fun p => if p.1 = x then (p.1, v) else p)
  | [], kvs, q => by simp only [Layd] at q; subst q; simp [Layd]
  | (y, d') :: l, kvs, q => by
    simp only [Layd] at q
    (refine byEEA (q) fun v' r hq10 hr11 => ?_; (try clear q); subst hq10; refine byA (hr11) fun q1 q2 => ?_; (try clear hr11))
    have ih := q2.map1 (x := x) w
    by_cases e : y = x
    · simp only [List.map_cons, e, if_true, Layd]
      exact ⟨v, _, rfl, w, ih⟩
    · simp only [List.map_cons, if_neg e, Layd]
      exact ⟨v', _, rfl, q1, ih⟩
theorem Layd.snoc {x : Str} {d : D} {v : Value} (w : Lay B V h d v) : ∀ {l : List (Str × D)} {kvs : List (Str × Value)}, Layd B V h l kvs -> Layd B V h (l ++ [(x, d)]) (kvs ++ [(x, v)])
  | [], kvs, q => by simp only [Layd] at q; subst q; simp only [List.nil_append, Layd]; exact ⟨v, [], rfl, w, rfl⟩
  | (y, d') :: l, kvs, q => by
    simp only [Layd] at q
    (refine byEEA (q) fun v' r hq12 hr13 => ?_; (try clear q); subst hq12; refine byA (hr13) fun q1 q2 => ?_; (try clear hr13))
    simp only [List.cons_append, Layd]
    exact ⟨v', _, rfl, q1, q2.snoc w⟩
theorem Layd.put {l : List (Str × D)} {kvs : List (Str × Value)} (x : Str) {d : D} {v : Value} (q : Layd B V h l kvs) (w : Lay B V h d v) : Layd B V h (dput l x d) (stored kvs x v) := by
  have e : kvs.any (fun p => decide (p.1 = x)) = l.any (fun p => decide (p.1 = x)) := by
    have a : ∀ z : List (Str × Value), z.any (fun p => decide (p.1 = x)) = (z.map (·.1)).any (fun y => decide (y = x)) := fun z => by rw [List.any_map]; rfl
    have b : ∀ z : List (Str × D), z.any (fun p => decide (p.1 = x)) = (z.map (·.1)).any (fun y => decide (y = x)) := fun z => by rw [List.any_map]; rfl
    rw [a, b, q.keys]
  unfold dput stored
  rw [e]
  split
  · exact q.map1 w
  · exact q.snoc w
theorem OfType.dict' {l : List (Str × D)} : OfType B "dict" (.dict l) := fun V s v y => by
  (refine byEA (y.asDict') fun a hq14 hr15 => ?_; subst hq14; refine byA (hr15) fun lo hr16 => ?_; (try clear hr15); refine byEA (hr16) fun kvs hd _ => ?_; (try clear hr16))
  exact ⟨hd.typeIs, hd.mapOf.noDict⟩
theorem sysNe (O : B.Ok) {a : Addr} (lo : B.n₀ <= a) : (a == sysModules) = false := by
  have := O.low
  exact beq_eq_false_iff_ne.mpr fun e => absurd this (by rw [<- e]; exact Nat.not_lt.mpr lo)
theorem SubR.dict {l : List (Str × D)} {x : Str} {d : D} (hd : dget l x = some d) : SubR B k (.dict l) (.str x) d := fun A V s o i Q E rm inv dm y z h => by
  (refine byEA (y.asDict') fun a hq17 hr18 => ?_; subst hq17; refine byA (hr18) fun lo hr19 => ?_; (try clear hr18); refine byEA (hr19) fun kvs hD ls => ?_; (try clear hr19))
  (refine byE (z.asStr) fun t hq20 => ?_; subst hq20)
  refine byEA ((ls.get x).1 d hd) fun v hv lv => ?_
  exact ⟨"dict", _, hD.typeIs, slot_dict_getitem.lookup, wpAny_getItem_of (prog := B.prog) (w := B.w) (PySem.strKind_is _ _ x t) hD.mapOf hv (h v _ (inv.tok _) (.refl _) lv)⟩
theorem Meth.dget : Meth "dict" "get" "dict.get" := ⟨PySem.F.plainAttrs_dict, PySem.F.slot_dict_get, PySem.F.type_dict_get⟩
theorem LaysB.one {d : D} {vs : List Value} (x : LaysB B V h [d] vs) : ∃ v, vs = [v] /\ LayB B V h d v := by
  (refine byEEA (x) fun v r hq21 hr22 => ?_; (try clear x); subst hq21; refine byA (hr22) fun a hq23 => ?_; (try clear hr22); subst hq23)
  exact ⟨v, rfl, a⟩
theorem LaysB.two {d e : D} {vs : List Value} (x : LaysB B V h [d, e] vs) : ∃ v w, vs = [v, w] /\ LayB B V h d v /\ LayB B V h e w := by
  (refine byEEA (x) fun v r hq24 hr25 => ?_; (try clear x); subst hq24; refine byA (hr25) fun a hr26 => ?_; (try clear hr25); refine byEEA (hr26) fun w r hq27 hr28 => ?_; (try clear hr26); subst hq27; refine byA (hr28) fun b hq29 => ?_; (try clear hr28); subst hq29)
  exact ⟨v, w, rfl, a, b⟩
theorem LaysB.three {d e f : D} {vs : List Value} (x : LaysB B V h [d, e, f] vs) : ∃ v w u, vs = [v, w, u] /\ LayB B V h d v /\ LayB B V h e w /\ LayB B V h f u := by
  (refine byEEA (x) fun v r hq30 hr31 => ?_; (try clear x); subst hq30; refine byA (hr31) fun a hr32 => ?_; (try clear hr31); refine byEEA (hr32) fun w r hq33 hr34 => ?_; (try clear hr32); subst hq33; refine byA (hr34) fun b hr35 => ?_; (try clear hr34); refine byEEA (hr35) fun u r hq36 hr37 => ?_; (try clear hr35); subst hq36; refine byA (hr37) fun c hq38 => ?_; (try clear hr37); subst hq38)
  exact ⟨v, w, u, rfl, a, b, c⟩
theorem BltR.dget (O : B.Ok) {l : List (Str × D)} {x y : Str} : BltR B k (.builtin "dict.get") [.dict l, .str x, .str y] ((Jv.dget l x).getD (.str y)) := fun A V s vs Q E rm i dm ls h => by
  (refine byEE (ls.three) fun v w hr39 => ?_; refine byEA (hr39) fun u hq40 hr41 => ?_; (try clear hr39); subst hq40; refine byAA (hr41) fun a b c => ?_; (try clear hr41))
  (refine byEA (a.asDict') fun D hq42 hr43 => ?_; subst hq42; refine byA (hr43) fun lo hr44 => ?_; (try clear hr43); refine byEA (hr44) fun kvs hD ld => ?_; (try clear hr44))
  (refine byE (b.asStr) fun t hq45 => ?_; subst hq45)
  (refine byE (c.asStr) fun t' hq46 => ?_; subst hq46)
  refine call_meetsIn PySem.F.slot_dict_get hD.typeIs PySem.F.entry_dict_get (PySem.F.args_dict_get_3 _ _ _) (meets_dict_get_default (PySem.strKind B.prog B.w) D (PySem.strKind_is _ _ x t) (sysNe O lo) _) ⟨_, hD.mapOf, h _ _ (i.tok _) (.refl _) ?_⟩
  have z := ld.get x
  cases e : Jv.dget l x with
  | none => rw [z.2 e]; exact ⟨t', rfl⟩
  | some d => refine byEA (z.1 d e) fun v hv lv => ?_; rw [hv]; exact lv
noncomputable def EvD (B : Base) (k : Nat) (K : Kinds) (Γ : G) (ks : List (Option Expr)) (es : List Expr) (l : List (Str × D)) : Prop := ks.length = l.length /\ es.length = l.length /\ ks.all (·.isSome) = true /\ ∀ (p : Pos) (A : Around) (env : Env) (V : Addr -> Prop) (s : Shared) (Q : List (Value × Value) -> Shared -> Prop) (E : Value -> Shared -> Prop),
  Room k A -> EnvOk K env -> Inv B A s -> EnvR B V s.heap env Γ ->
  (∀ vs s', Inv B A s' -> Kp s.heap s'.heap -> allStrKeys vs = true -> Layd B V s'.heap l (strPairs vs) -> Q vs s') -> wpAny B.M A (evalPairs (pairTrees ks es env p)) Q E s
theorem EvD.nil : EvD B k K Γ [] [] [] := ⟨rfl, rfl, rfl, fun p A env V s Q E rm eo i g h => pairTrees_nil_walk (h [] s i (.refl _) rfl rfl)⟩
theorem EvD.cons {ke e : Expr} {ks : List (Option Expr)} {es : List Expr} {x : Str} {d : D} {l : List (Str × D)} (u : Ev B k K Γ ke (.str x)) (v : Ev B k K Γ e d) (r : EvD B k K Γ ks es l) : EvD B k K Γ (some ke :: ks) (e :: es) ((x, d) :: l) :=
  ⟨by simp [r.1], by simp [r.2.1], by simp [r.2.2.1], fun p A env V s Q E rm eo i g h => pairTrees_cons_walk (u.run A env V s _ E rm eo i g fun v₁ s₁ i₁ k₁ l₁ => v.run A env V s₁ _ E rm eo i₁ (g.kp k₁) fun v₂ s₂ i₂ k₂ l₂ =>
    r.2.2.2 p A env V s₂ _ E rm eo i₂ ((g.kp k₁).kp k₂) fun vs s₃ i₃ k₃ a₃ l₃ => by
      simp only [Lay] at l₁
      (refine byE (l₁) fun t hq47 => ?_; (try clear l₁); subst hq47)
      refine h _ s₃ i₃ ((k₁.trans k₂).trans k₃) a₃ ?_
      show Layd B V s₃.heap ((x, d) :: l) ((x, v₂) :: strPairs vs)
      simp only [Layd]
      exact ⟨v₂, _, rfl, l₂.kp k₃, l₃⟩)⟩
theorem EvF.dict (O : B.Ok) {ks : List (Option Expr)} {es : List Expr} {l : List (Str × D)} {p : Pos} (x : EvD B k K Γ ks es l) (h0 : ks ≠ [] := by simp) (hl : ks.length <= 15 := by decide) (hn : (l.map (·.1)).Nodup := by decide) : EvF B k K Γ (.Dict ks es p) (.dict l) := .mk fun A env V s Q E rm eo i g h => by
  have kp : ∀ b o, s.heap.get? b = some o → (s.heap.push { cls := .type "dict", data := .dict #[] }).get? b = some o := fun b o e => Heap.get?_push_of_some _ e
  have fr : s.heap.get? s.heap.objs.size = none := none_size (Nat.le_refl _)
  let V' : Addr -> Prop := fun b => V b \/ b = s.heap.objs.size
  let s₀ : Shared := { s with heap := s.heap.push { cls := .type "dict", data := .dict #[] } }
  have g₀ : EnvR B V' s₀.heap env Γ := by
    refine ⟨fun b hb => ?_, fun y sl e => ?_⟩
    · rcases hb with hb | hb
      · exact (g.kp (.of kp)).domP b hb
      · subst hb; exact ⟨_, Heap.get?_push_size _ rfl, fun q => q.1 (.inr (.inr (.inl rfl)))⟩
    · refine byEA (g.vars y sl e) fun v lk hv => ?_
      refine ⟨v, lk.kp (.of kp), ?_⟩
      have mono : ∀ b o, ¬ V b -> s.heap.get? b = some o -> IsData o -> ¬ V' b /\ s₀.heap.get? b = some o := fun b o nb e _ => ⟨fun q => q.elim nb (fun z => by rw [z, fr] at e; cases e), kp b o e⟩
      cases sl with
      | sh d => exact Lay.mono mono hv
      | own a? d => (refine byEAAA (hv) fun a e f q c => ?_; (try clear hv)); exact ⟨a, e, f, .inl q, c.mono mono fun o e _ => kp a o e⟩
  refine wpAny_Dict_walk (knd := PySem.strKind B.prog B.w) x.2.2.1 (by rw [x.1, x.2.1]) h0 hl ?_
  refine x.2.2.2 p A env V' s₀ _ E rm eo (i.keep O (tk := s.toks) kp) g₀ fun vs s₁ i₁ k₁ a₁ l₁ => ?_
  have hd₁ : s₁.heap.DictOf (PySem.strKind B.prog B.w) s.heap.objs.size [] := by
    (refine byEE (Heap.DictOf.new (knd := PySem.strKind B.prog B.w) s.heap) fun o es' hr48 => ?_; refine byEAA (hr48) fun ep ho hx hd => ?_; (try clear hr48))
    exact ⟨o, es', ep, IsData.kept (.inr (.inr (.inl hx.1))) (k₁ _ o ho), hx, hd⟩
  refine display_done_str a₁ (by rw [l₁.keys]; exact hn) hd₁ fun h' hd' hs' => ?_
  have kp' : ∀ b o, b ≠ s.heap.objs.size -> s₁.heap.get? b = some o -> h'.get? b = some o := fun b o nb e => by rw [hs'.2 b nb]; exact e
  have k₂ : KpOff (fun b => b = s.heap.objs.size) s₁.heap h' := fun b o nb e => .inl (kp' b o nb e)
  have lo := O.size _ i.good
  have kk : Kp s.heap h' := fun b o e => by
    have nb : b ≠ s.heap.objs.size := fun z => by rw [z, fr] at e; cases e
    rcases k₁ b o (kp b o e) with q | ⟨c, sl, q⟩ | ⟨c, o', q⟩
    · exact .inl (kp' b _ nb q)
    · exact .inr (.inl ⟨c, sl, kp' b _ nb q⟩)
    · exact .inr (.inr ⟨c, o', kp' b _ nb q⟩)
  refine h _ _ ⟨O.step _ _ i₁.good fun b o hb e => kp' b o (fun z => hb.elim (fun hb => by rw [z] at hb; exact absurd hb (Nat.not_lt.mpr lo)) fun c => by obtain ⟨o', _, _, h1, h2, _⟩ := hd₁; rw [z, h1] at e; cases e; rw [h2.1] at c; exact absurd c (by simp)) e, i₁.gens, i₁.os, i.fr.off kk⟩ kk fr lo ⟨lo, _, hd', ?_⟩
  exact l₁.mono fun b o nb e id => ⟨nb, kp' b o (fun z => nb (.inr z)) e⟩
end
section
variable {B : Base} {k : Nat} {K : Kinds} {Γ Γ' : G} {V V₀ W : Addr -> Prop} {h h' : Heap} {env : Env} {A : Around} {s : Shared}
noncomputable def Off1 (a : Addr) (h h' : Heap) : Prop := KpOff (fun b => b = a) h h'
theorem Off1.of (hs : Heap.SameBut a h h') : Off1 a h h' := fun b o nb e => .inl ((hs.2 b nb).trans e)
theorem Content.isData {d : D} {a : Addr} (c : Content B V h d a) : ∃ o, h.get? a = some o /\ IsData o := by
  cases d with
  | list l => (refine byEA (c) fun items hp1 _ => ?_; (try clear c); obtain ⟨n, e⟩ := hp1); exact ⟨_, e, .inl rfl⟩
  | tup l => (refine byEA (c) fun items hp2 _ => ?_; (try clear c); obtain ⟨n, e⟩ := hp2); exact ⟨_, e, .inr (.inl rfl)⟩
  | dict l => (refine byA (c) fun _ hr3 => ?_; (try clear c); refine byEA (hr3) fun kvs hp4 _ => ?_; (try clear hr3); obtain ⟨o, es, ep, ho, hx, _⟩ := hp4); exact ⟨o, ho, .inr (.inr (.inl hx.1))⟩
  | none => exact c.elim
  | bool _ => exact c.elim
  | int _ => exact c.elim
  | str _ => exact c.elim
  | ty _ => exact c.elim
theorem Looks.off1 {x : Str} {v : Value} {a : Addr} (l : Looks h env x v) (k : Off1 a h h') (d : ∃ o, h.get? a = some o ∧ IsData o) (loc : ∃ o, h.get? env.locals = some o ∧ o.cls = .type "frame") : Looks h' env x v := by
  (refine byEA (d) fun o ho hd => ?_; (try clear d))
  rcases l with ⟨e, m, p, q⟩ | ⟨e, c, p, q⟩
  · refine .inl ⟨e, m, p.keptQ fun o' e' => (k _ o' (fun z => ?_) e').q, q⟩
    (refine byEA (loc) fun o2 e2 c2 => ?_; (try clear loc))
    rw [z] at e2; rw [e2] at ho; cases ho
    exact hd.nf.1 c2
  · refine .inr ⟨e, c, p, q.keptQ fun o' e' => (k _ o' (fun z => ?_) e').q⟩
    (refine byEAA (q) fun o2 e2 c2 _ => ?_; (try clear q))
    rw [z] at e2; rw [e2] at ho; cases ho
    exact hd.nf.2 c2
theorem Stm.mut (st : Stm B V₀ W h env Γ) {x : Str} {a? : Option Addr} {d d' : D} {a : Addr} (hx : Γ.lookup x = some (.own a? d)) (lx : Looks h env x (.ref a)) (k : Off1 a h h') (c : Content B (fun b => V₀ b \/ W b) h' d' a) :
    Stm B V₀ W h' env (put Γ x (.own a? d')) /\ W a /\ ∀ y w, Looks h env y w -> Looks h' env y w := by
  refine byEAA (st.own x a? d _ hx lx) fun a' e' wa nv => ?_
  cases e'
  refine byEAEAAA (st.r.vars x _ hx) fun vx lx' a'' e'' hf hV hc => ?_
  rw [lx'.same lx] at e''; cases e''
  have hD := hc.isData
  have hloc : ∃ o, h.get? env.locals = some o ∧ o.cls = .type "frame" := by (refine byA (st.loc) fun _ hr5 => ?_; refine byEE (hr5) fun o es hr6 => ?_; (try clear hr5); refine byEAA (hr6) fun ep e c _ => ?_; (try clear hr6)); exact ⟨o, e, c⟩
  have fwd : ∀ y w, Looks h env y w -> Looks h' env y w := fun y w l => l.off1 k hD hloc
  have keepK : ∀ b o, ¬ (V₀ b \/ W b) -> h.get? b = some o -> IsData o -> ¬ (V₀ b \/ W b) /\ h'.get? b = some o := fun b o nb e i =>
    ⟨nb, IsData.kept i (k b o (fun z => nb (.inr (z ▸ wa))) e)⟩
  have back : ∀ y w, (∃ sl', Γ.lookup y = some sl') -> Looks h' env y w -> Looks h env y w := fun y w hx l => by
    (refine byE (hx) fun sl' e => ?_; (try clear hx))
    refine byEA (st.r.vars y sl' e) fun w' l' _ => ?_
    have := (fwd y w' l').same l
    exact this ▸ l'
  have nloc : env.locals ≠ a := fun z => by
    (refine byEA (hloc) fun o e c => ?_; (try clear hloc)); (refine byEA (hD) fun o2 e2 c2 => ?_; (try clear hD))
    rw [z] at e; rw [e] at e2; cases e2; exact c2.nf.1 c
  refine ⟨⟨⟨fun b hb => ?_, fun y sl' e => ?_⟩, st.hi, st.frame, ⟨st.loc.1, ?_⟩, fun y c m => ⟨(st.cells y c m).1, ?_⟩, st.apart, st.kinds, fun y ay dy w e l => ?_, fun y z ay dy az dz w ey ez ly lz => ?_⟩, wa, fwd⟩
  · by_cases q : b = a
    · subst q
      refine byEA (c.isData) fun o e i => ?_
      exact ⟨o, e, fun z => z.1 i⟩
    · refine byEA (st.r.domP b hb) fun o e n => ?_
      exact (k b o q e).q.ex n
  · rw [put_look] at e
    by_cases hy : (y == x) = true
    · rw [if_pos hy] at e
      cases e
      rw [beq_iff_eq.mp hy]
      exact ⟨_, fwd x _ lx, a, rfl, fun a₀ z => by rw [hf a₀ z], hV, c⟩
    · rw [if_neg hy] at e
      refine byEA (st.r.vars y sl' e) fun w l hh => ?_
      refine ⟨w, fwd y w l, ?_⟩
      cases sl' with
      | sh dd => exact Lay.mono keepK hh
      | own ay dy =>
        (refine byEAAA (hh) fun r er f g cc => ?_; (try clear hh))
        refine ⟨r, er, f, g, cc.mono keepK fun o eo i => IsData.kept i (k r o (fun z => ?_) eo)⟩
        subst z
        subst er
        exact hy (beq_iff_eq.mpr (st.apo y x ay dy a? d _ e hx l lx))
  · refine byAEEEAAA (st.loc) fun _ o es ep e c1 c2 c3 => ?_
    rcases k _ o nloc e with q | ⟨_, sl, q⟩ | ⟨q, _⟩
    · exact ⟨o, es, ep, q, c1, c2, c3⟩
    · exact ⟨_, es, ep, q, c1, c2, c3⟩
    · rw [c1] at q; cases q
  · refine byAEEAA (st.cells y c m) fun _ v o e c1 c2 => ?_
    (refine byEA (hD) fun o2 e2 i2 => ?_; (try clear hD))
    have : c ≠ a := fun z => by rw [z] at e; rw [e] at e2; cases e2; exact i2.nf.2 c1
    exact ⟨v, (show CellAt h c v from ⟨o, e, c1, c2⟩).keptQ fun o' e' => (k _ o' this e').q⟩
  · rw [put_look] at e
    by_cases hy : (y == x) = true
    · rw [if_pos hy] at e
      cases e
      obtain rfl := beq_iff_eq.mp hy
      exact st.own y _ d w hx (back y w ⟨_, hx⟩ l)
    · rw [if_neg hy] at e
      exact st.own y ay dy w e (back y w ⟨_, e⟩ l)
  · have g : ∀ u au du, (put Γ x (.own a? d')).lookup u = some (.own au du) -> ∃ au du, Γ.lookup u = some (.own au du) := fun u au du e => by
      rw [put_look] at e
      by_cases hy : (u == x) = true
      · obtain rfl := beq_iff_eq.mp hy; exact ⟨_, _, hx⟩
      · rw [if_neg hy] at e; exact ⟨_, _, e⟩
    refine byEE (g y _ _ ey) fun ay' dy' ey' => ?_
    refine byEE (g z _ _ ez) fun az' dz' ez' => ?_
    exact st.apo y z ay' dy' az' dz' w ey' ez' (back y w ⟨_, ey'⟩ ly) (back z w ⟨_, ez'⟩ lz)
structure EvN (B : Base) (k : Nat) (K : Kinds) (Γ : G) (e : Expr) (d : D) (Γ' : G) : Prop where
  run : ∀ (A : Around) (env : Env) (V₀ W : Addr -> Prop) (s : Shared) (Q : Value -> Shared -> Prop) (E : Value -> Shared -> Prop),
  Room k A -> EnvOk K env -> Inv B A s -> Stm B V₀ W s.heap env Γ ->
  (∀ v s', Inv B A s' -> Dom s.heap s'.heap -> KpOff W s.heap s'.heap -> (∀ y w, Looks s.heap env y w -> Looks s'.heap env y w) -> Stm B V₀ W s'.heap env Γ' -> Lay B (fun b => V₀ b \/ W b) s'.heap d v -> Q v s') ->
  wpAny B.M A (eval e env) Q E s
theorem EvN.m {e : Expr} {d : D} (x : EvN B k K Γ e d Γ') : EvM B k K Γ e d Γ' := .mk fun A env V₀ W s Q E rm eo i st h =>
  x.run A env V₀ W s Q E rm eo i st fun v s' i' dm kp lk st' l => h v s' W i' dm ⟨fun _ q => .inl q, kp⟩ st' l
structure EvLN (B : Base) (k : Nat) (K : Kinds) (Γ : G) (es : List Expr) (ds : List D) (Γ' : G) : Prop where
  run : ∀ (p : Pos) (A : Around) (env : Env) (V₀ W : Addr -> Prop) (s : Shared) (Q : List Value -> Shared -> Prop) (E : Value -> Shared -> Prop),
  Room k A -> EnvOk K env -> Inv B A s -> Stm B V₀ W s.heap env Γ ->
  (∀ vs s', Inv B A s' -> Dom s.heap s'.heap -> KpOff W s.heap s'.heap -> (∀ y w, Looks s.heap env y w -> Looks s'.heap env y w) -> Stm B V₀ W s'.heap env Γ' -> Lays B (fun b => V₀ b \/ W b) s'.heap ds vs -> Q vs s') ->
  wpAny B.M A (spliced (backTo p (starEach es env))) Q E s
theorem EvLN.nil : EvLN B k K Γ [] [] Γ := .mk fun p A env V₀ W s Q E rm o i st h => by
  rw [starEach_nil]; exact Calls.spliced_nil (h [] s i (.refl _) ((Kp.refl _).off _) (fun _ _ l => l) st rfl)
theorem EvL.n {es : List Expr} {ds : List D} (x : EvL B k K Γ es ds) : EvLN B k K Γ es ds Γ := .mk fun p A env V₀ W s Q E rm eo i st h =>
  x.run p A env _ s Q E rm eo i st.r fun v s' i' kp l => h v s' i' kp.dom (kp.off _) (fun y w l => l.kp kp) (st.kp kp) l
theorem lay_off {d : D} {v : Value} (x : Lay B (fun b => V₀ b \/ W b) h d v) (k : KpOff W h h') : Lay B (fun b => V₀ b \/ W b) h' d v := x.mono (offK k (fun _ q => .inr q) fun _ q => .inl q)
theorem KpOff.trans' {h₁ h₂ h₃ : Heap} (x : KpOff W h₁ h₂) (y : KpOff W h₂ h₃) : KpOff W h₁ h₃ := x.trans y fun _ _ nb _ => nb
theorem EvLN.cons {e : Expr} {es : List Expr} {d : D} {ds : List D} {Γ₁ : G} (x : EvN B k K Γ e d Γ₁) (y : EvLN B k K Γ₁ es ds Γ') (hn : notStar e = true := by rfl) : EvLN B k K Γ (e :: es) (d :: ds) Γ' := .mk fun p A env V₀ W s Q E rm eo i st h => by
  rw [starEach_cons hn]
  show wpAny _ _ (spliced ((false, eval e env) :: backTo p (starEach es env))) Q E s
  exact Calls.spliced_cons (x.run A env V₀ W s _ E rm eo i st fun v s₁ i₁ d₁ k₁ l₁ st₁ y₁ => y.run p A env V₀ W s₁ _ E rm eo i₁ st₁ fun vs s₂ i₂ d₂ k₂ l₂ st₂ y₂ =>
    h (v :: vs) s₂ i₂ (d₁.trans d₂) (KpOff.trans' k₁ k₂) (fun y w l => l₂ y w (l₁ y w l)) st₂ (by simp only [Lays]; exact ⟨v, vs, rfl, lay_off y₁ k₂, y₂⟩))
noncomputable def MutR (B : Base) (k : Nat) (f : Value) (d : D) (ds : List D) (d' dr : D) : Prop := ∀ (A : Around) (V : Addr -> Prop) (s : Shared) (a : Addr) (vs : List Value) (Q : Value -> Shared -> Prop) (E : Value -> Shared -> Prop),
  Room k A -> Inv B A s -> (∀ b, V b -> ∃ o, s.heap.get? b = some o /\ ¬ IsPriv o) -> V a -> B.n₀ <= a -> Content B V s.heap d a -> Lays B V s.heap ds vs ->
  (∀ v s', Inv B A s' -> Off1 a s.heap s'.heap -> Content B V s'.heap d' a -> Lay B V s'.heap dr v -> Q v s') -> wpAny B.M A (call f (.ref a :: vs)) Q E s
theorem Off1.dom {a : Addr} (k : Off1 a h h') (e : ∃ o, h'.get? a = some o) : Dom h h' := fun b o q => by
  by_cases z : b = a
  · subst z; exact e
  · exact (k b o z q).ex
theorem Off1.off {a : Addr} (k : Off1 a h h') (wa : W a) : KpOff W h h' := fun b o nb e => k b o (fun z => nb (z ▸ wa)) e
theorem EvN.meth {x : Str} {px ap p : Pos} {name : Str} {args : List Expr} {T id : String} {a? : Option Addr} {d d' dr : D} {ds : List D} {Γ₁ : G} {d₁ : D} {a?₁ : Option Addr} (hx : Γ.lookup x = some (.own a? d)) (y : EvLN B k K Γ args ds Γ₁) (hx₁ : Γ₁.lookup x = some (.own a?₁ d₁)) (m : Meth T name id) (t : OfType B T d) (c : MutR B k (.builtin id) d₁ ds d' dr)
    (hl : (ap.endLine == p.line) = true := by rfl) (hs : noStars args = true := by rfl) (hn : args.length < 30 := by decide) (h1 : (x == ("__debug__" : Str)) = false := by decide) (h2 : (x == ("__classdict__" : Str)) = false := by decide)
    (hb : ∀ env, attributeBase (.Name x px) name env (eval (.Name x px) env) = eval (.Name x px) env := by intro _; rfl) :
    EvN B k K Γ (.Call (.Attribute (.Name x px) name ap) args [] p) dr (put Γ₁ x (.own a?₁ d')) := .mk fun A env V₀ W s Q E rm eo i st h => by
  have len : (backTo p (starEach args env)).all (fun x => !x.1) = true := by
    have := starEach_plain args env p hs
    rw [List.all_eq_true]
    intro z hz
    have h2 := List.any_eq_false.mp this z hz
    simpa using h2
  refine byEA (st.r.vars x _ hx) fun v l hv => ?_
  refine wpAny_Call_method_lateS (hb env) (by rw [len]; simp [backToKw, keywordEach]; exact hn) hl (wpAny_Name (loadName_looks eo l h2 ?_) h1)
  refine byA (t _ s v hv.layB) fun q1 q2 => ?_
  refine ⟨T, id, m.plain, m.slot, m.ty, q1, q2, ?_⟩
  refine callWith_blt rfl hs (y.run p A env V₀ W s _ E rm eo i st fun vs s₁ i₁ dm₁ k₁ lk₁ st₁ l₁ => ?_)
  refine byEAEAAA (st₁.r.vars x _ hx₁) fun v₁ lv₁ a ea hf hV hc => ?_
  have e1 := (lk₁ x v l).same lv₁
  rw [e1, ea]
  rw [ea] at lv₁
  have wa : W a := by
    refine byEAA (st₁.own x _ _ _ hx₁ lv₁) fun a' e' wa _ => ?_
    cases e'; exact wa
  refine c A _ s₁ a vs Q E rm i₁ st₁.r.domP hV (st₁.hi a wa) hc l₁ fun v₂ s₂ i₂ k₂ c₂ l₂ => ?_
  refine byAA (st₁.mut hx₁ lv₁ k₂ c₂) fun st₂ wa fwd => ?_
  refine byEA (c₂.isData) fun o eo _ => ?_
  exact h v₂ s₂ i₂ (dm₁.trans (k₂.dom ⟨o, eo⟩)) (KpOff.trans' k₁ (k₂.off wa)) (fun y w l => fwd y w (lk₁ y w l)) st₂ l₂
noncomputable def SetR (B : Base) (k : Nat) (d di dv d' : D) : Prop := ∀ (A : Around) (V : Addr -> Prop) (s : Shared) (a : Addr) (iv v : Value) (Q : Unit -> Shared -> Prop) (E : Value -> Shared -> Prop),
  Room k A -> Inv B A s -> V a -> B.n₀ <= a -> Content B V s.heap d a -> Lay B V s.heap di iv -> Lay B V s.heap dv v ->
  (∀ s', Inv B A s' -> Off1 a s.heap s'.heap -> Content B V s'.heap d' a -> Q () s') -> wpAny B.M A (setItem (.ref a) iv v) Q E s
theorem Ex1.setItem {x : Str} {px pp p : Pos} {ie value : Expr} {a? : Option Addr} {d di dv d' : D} (hx : Γ.lookup x = some (.own a? d)) (u : Ev B k K Γ value dv) (w : Ev B k K Γ ie di) (c : SetR B k d di dv d')
    (hsw : ∀ env, swapsWith value (some (.Subscript (.Name x px) ie pp)) p.line env = pure false := by intro _; rfl) (h1 : (x == ("__debug__" : Str)) = false := by decide) (h2 : (x == ("__classdict__" : Str)) = false := by decide) :
    Ex1 B k K Γ (.Assign [.Subscript (.Name x px) ie pp] value p) .next (put Γ x (.own a? d')) := .mk fun A env V₀ W s Q E rm eo i st h => by
  refine wpAny_Assign_Subscript (u.run A env _ s _ E rm eo i st.r fun v s₁ i₁ k₁ l₁ => ?_) (hsw env)
  have st₁ := st.kp k₁
  refine byEAEAAA (st₁.r.vars x _ hx) fun vx lx a ea hf hV hc => ?_
  subst ea
  refine wpAny_Name (loadName_looks eo lx h2 (w.run A env _ s₁ _ E rm eo i₁ st₁.r fun iv s₂ i₂ k₂ l₂ => ?_)) h1
  have st₂ := st₁.kp k₂
  have wa : W a := by
    refine byEAA (st₁.own x _ _ _ hx lx) fun a' e' wa _ => ?_
    cases e'; exact wa
  refine c A _ s₂ a iv v _ E rm i₂ hV (st₁.hi a wa) (hc.kp k₂) l₂ (l₁.kp k₂) fun s₃ i₃ k₃ c₃ => ?_
  refine byAA (st₂.mut hx (lx.kp k₂) k₃ c₃) fun st₃ _ fwd => ?_
  refine byEA (c₃.isData) fun o eo _ => ?_
  exact h .next s₃ W i₃ ((k₁.trans k₂).dom.trans (k₃.dom ⟨o, eo⟩)) ⟨fun _ q => .inl q, KpOff.trans' ((k₁.trans k₂).off _) (k₃.off wa)⟩ st₃ rfl
end
section
variable {B : Base} {k : Nat} {K : Kinds} {Γ Γ' : G} {V V₀ W : Addr -> Prop} {h h' : Heap} {env : Env} {A : Around} {s : Shared}
theorem mapSeq_plain (f : Array Value → Array Value) (its : Array Value) (n : Nat) : ∃ n', Obj.mapSeq f { cls := .type "list", data := .seq its n } = { cls := .type "list", data := .seq (f its) n' } := by
  simp [Obj.mapSeq]
theorem plain_update {l : Addr} {its : Array Value} {n : Nat} (f : Array Value → Array Value) (ho : h.get? l = some { cls := .type "list", data := .seq its n }) : (h.update l (Obj.mapSeq f)).PlainList l (f its) := by
  refine byE (mapSeq_plain f its n) fun n' e => ?_
  exact ⟨n', by rw [Heap.get?_update_self _ ho (by rw [e]; rfl), e]⟩
theorem lays_off1 {l : List D} {vs : List Value} {a : Addr} (x : Lays B V h l vs) (va : V a) (k : Off1 a h h') : Lays B V h' l vs := x.mono fun b o nb e i => ⟨nb, IsData.kept i (k b o (fun z => nb (z ▸ va)) e)⟩
theorem lay_off1 {l : D} {vs : Value} {a : Addr} (x : Lay B V h l vs) (va : V a) (k : Off1 a h h') : Lay B V h' l vs := x.mono fun b o nb e i => ⟨nb, IsData.kept i (k b o (fun z => nb (z ▸ va)) e)⟩
theorem layd_off1 {l : List (Str × D)} {vs : List (Str × Value)} {a : Addr} (x : Layd B V h l vs) (va : V a) (k : Off1 a h h') : Layd B V h' l vs := x.mono fun b o nb e i => ⟨nb, IsData.kept i (k b o (fun z => nb (z ▸ va)) e)⟩
theorem mut_list (O : B.Ok) (i : Inv B A s) {a : Addr} {its its' : Array Value} {l' : List D} (va : V a) (lo : B.n₀ <= a) (hp : s.heap.PlainList a its) (hs : Heap.SameBut a s.heap h') (hp' : h'.PlainList a its') (ls : Lays B V s.heap l' its'.toList) (tk : Nat) :
    Inv B A { s with heap := h', toks := tk } /\ Off1 a s.heap h' /\ Content B V h' (.list l') a := by
  refine ⟨i.sameBut O hs lo (fun o e => ?_), .of hs, its', hp', lays_off1 ls va (.of hs)⟩
  (refine byE (hp) fun n e' => ?_; (try clear hp))
  rw [e'] at e; cases e; simp
theorem MutR.append (O : B.Ok) {l : List D} {d : D} (hz : l.length ≤ sizeLine) : MutR B k (.builtin "list.append") (.list l) [d] (.list (l ++ [d])) .none := fun A V s a vs Q E rm i dm va lo c ls h => by
  (refine byEA (c) fun its hp ll => ?_; (try clear c))
  simp only [Lays] at ls
  (refine byEEA (ls) fun v r hq1 hr2 => ?_; (try clear ls); subst hq1; refine byA (hr2) fun lv hq3 => ?_; (try clear hr2); subst hq3)
  refine wpAny_list_append_plain hp (fun h' hp' hs => ?_) (by rw [show its.size = l.length by rw [<- ll.length]; simp]; exact hz)
  refine byAA (mut_list O i (l' := l ++ [d]) va lo hp hs hp' (by rw [Array.toList_push]; exact ll.append (.one lv)) s.toks) fun i' k' c' => ?_
  exact h _ _ i' k' c' rfl
theorem Meth.append : Meth "list" "append" "list.append" := ⟨PySem.F.plainAttrs_list, PySem.F.slot_list_append, PySem.F.type_list_append⟩
theorem MutR.extend (O : B.Ok) {l l₂ : List D} (hz : l.length + l₂.length ≤ sizeLine) : MutR B k (.builtin "list.extend") (.list l) [.list l₂] (.list (l ++ l₂)) .none := fun A V s a vs Q E rm i dm va lo c ls h => by
  (refine byEA (c) fun its hp ll => ?_; (try clear c))
  simp only [Lays] at ls
  (refine byEEA (ls) fun v r hq4 hr5 => ?_; (try clear ls); subst hq4; refine byA (hr5) fun lv hq6 => ?_; (try clear hr5); subst hq6)
  simp only [Lay] at lv
  (refine byEA (lv) fun b hq7 hr8 => ?_; (try clear lv); subst hq7; refine byA (hr8) fun nb hr9 => ?_; (try clear hr8); refine byEA (hr9) fun its₂ hp₂ ll₂ => ?_; (try clear hr9))
  refine byE (id hp) fun n ho => ?_
  refine byE (id hp₂) fun n₂ ho₂ => ?_
  have z1 : its.size = l.length := by rw [<- ll.length]; simp
  have z2 : its₂.size = l₂.length := by rw [<- ll₂.length]; simp
  have big : sizeLine = 16777216 := rfl
  refine call_meets PySem.F.slot_list_extend ⟨_, ho, rfl⟩ PySem.F.entry_list_extend (PySem.F.args_list_extend_2 _ _) (PySem.AutoSeq1.list_extend_list_list_0 a _ n b _ n₂ (by
    have : Builtin.List.listTooLong (its.size + its₂.size) = false := by
      unfold Builtin.List.listTooLong
      simp
      omega
    simp [this]) (by omega) (by omega)) ⟨ho, ho₂, ?_⟩
  refine byAA (mut_list O i (l' := l ++ l₂) va lo hp (Heap.SameBut.update ..) (plain_update (fun x => x ++ its₂) ho) (by rw [Array.toList_append]; exact ll.append ll₂) s.toks) fun i' k' c' => ?_
  exact h _ _ i' k' c' rfl
theorem Meth.extend : Meth "list" "extend" "list.extend" := ⟨PySem.F.plainAttrs_list, PySem.F.slot_list_extend, PySem.F.type_list_extend⟩
theorem setItem_plain {prog : Program} {w : World} {E : Value -> Shared -> Prop} {l : Addr} {items : Array Value} {x : Int} {j : Nat} {t : Tok} {v : Value} {Q : Unit -> Shared -> Prop} (hl : s.heap.IsList l items)
    (h0 : 0 <= x) (hfit : x < 2 ^ 63) (ex : x = (j : Int)) (hj : j < items.size) (hQ : Q () { s with heap := s.heap.update l (Obj.mapSeq (·.setIfInBounds j v)) }) :
    wpAny (model prog w) A (setItem (.ref l) (.int x t) v) Q E s := by
  refine byEAAE (id hl) fun o ho hc ne hd => ?_
  unfold PySem.setItem
  try with_reducible refine wpAny_holding ?_
  first | refine wpAny_bind (wpAny_pure ?_) | skip
  refine wpAny_bind (wpAny_sequenceKey hl.typeIs (by decide) ?_)
  refine wpAny_bind (wpAny_callSpecial?_slot (name := Str.ofString "__setitem__") hl.typeIs slot_list_setitem
    (wpAny_call_entry slot_list_setitem hl.typeIs entry_list_setitem ?_ (args_list_setitem _ _ _)))
  show wpAny _ _ (Builtin.List.listSubscript? (.int x t) >>= _) _ _ s
  refine wpAny_bind (wpAny_listSubscript_int (fitsIndex_of h0 hfit) ?_)
  clear hfit h0
  subst ex
  have hx' : items[j]? = some items[j] := Array.getElem?_eq_getElem hj
  show wpAny _ _ ((seqItemAt l j >>= fun r => pure (r.map (j, ·))) >>= _) _ _ s
  refine wpAny_bind (wpAny_bind (wpAny_seqItemAt ho hd (wpAny_pure ?_)))
  rw [hx']
  show wpAny _ _ (setSeqItemAt l j v >>= _) _ _ s
  refine wpAny_bind (wpAny_setSeqItemAt ho hd ?_)
  first
    | exact wpAny_bind (wpAny_pure (wpAny_pure ⟨.none, rfl, wpAny_pure hQ⟩))
    | exact wpAny_pure ⟨.none, rfl, wpAny_pure hQ⟩
theorem SetR.list (O : B.Ok) {l : List D} {n : Nat} {d : D} (hn : n < l.length) (hz : l.length <= sizeLine) : SetR B k (.list l) (.int n) d (.list (l.set n d)) := fun A V s a iv v Q E rm i va lo c li lv h => by
  (refine byEA (c) fun its hp ll => ?_; (try clear c))
  simp only [Lay] at li
  (refine byE (li) fun t hq17 => ?_; (try clear li); subst hq17)
  refine byE (id hp) fun m ho => ?_
  have z1 : its.size = l.length := by rw [<- ll.length]; simp
  have big : sizeLine = 16777216 := rfl
  refine byAA (mut_list O i (l' := l.set n d) va lo hp (Heap.SameBut.update ..) (plain_update (fun xs => xs.setIfInBounds n v) ho) (by rw [Array.toList_setIfInBounds]; exact ll.set n lv) s.toks) fun i' k' c' => ?_
  exact setItem_plain hp.isList (by omega) (by omega) rfl (by omega) (h _ i' k' c')
theorem SetR.dict (O : B.Ok) {l : List (Str × D)} {x : Str} {d : D} (hz : l.length <= sizeLine) : SetR B k (.dict l) (.str x) d (.dict (dput l x d)) := fun A V s a iv v Q E rm i va lo c li lv h => by
  (refine byA (c) fun _ hr18 => ?_; (try clear c); refine byEA (hr18) fun kvs hD ld => ?_; (try clear hr18))
  simp only [Lay] at li
  (refine byE (li) fun t hq19 => ?_; (try clear li); subst hq19)
  refine wpAny_setItem_pairs (PySem.strKind_is _ _ x t) hD (fun h' hD' hs => ?_) (by rw [ld.length]; exact hz)
  refine h _ (i.sameBut O hs lo fun o e => ?_) (.of hs) ⟨lo, _, hD', layd_off1 (ld.put x lv) va (.of hs)⟩
  (refine byEE (hD) fun o' es hr20 => ?_; (try clear hD); refine byEAA (hr20) fun ep ho hx _ => ?_; (try clear hr20))
  rw [ho] at e; cases e; rw [hx.1]; simp
end
open PySem.SeqAt (EqAt RcAt)
mutual
noncomputable def sim : D -> D -> Bool
  | .none, .none => true
  | .bool _, .bool _ => true
  | .int _, .int _ => true
  | .str _, .str _ => true
  | .list l, .list l' => sims l l'
  | .tup l, .tup l' => sims l l'
  | _, _ => false
noncomputable def sims : List D -> List D -> Bool
  | a :: l, b :: l' => sim a b && sims l l'
  | _, _ => true
end
mutual
noncomputable def dep : D -> Nat
  | .list l => deps l + 1
  | .tup l => deps l + 1
  | _ => 0
noncomputable def deps : List D -> Nat
  | [] => 0
  | a :: l => max (dep a) (deps l)
end
section
variable {B : Base} {k : Nat} {K : Kinds} {Γ Γ' : G} {V V' W : Addr -> Prop} {h h' : Heap} {env : Env} {A : Around} {s : Shared}
theorem PlainList.det {a : Addr} {i j : Array Value} (x : h.PlainList a i) (y : h.PlainList a j) : i = j := by
  (refine byE (x) fun n e => ?_; (try clear x)); (refine byE (y) fun m e' => ?_; (try clear y))
  rw [e] at e'
  injection e' with e'
  injection e' with _ _ e'
  injection e'
theorem PlainTup.det {a : Addr} {i j : Array Value} (x : PlainTup h a i) (y : PlainTup h a j) : i = j := by
  (refine byE (x) fun n e => ?_; (try clear x)); (refine byE (y) fun m e' => ?_; (try clear y))
  rw [e] at e'
  injection e' with e'
  injection e' with _ _ e'
  injection e'
mutual
theorem Lay.det : ∀ {d d' : D} {v : Value}, sim d d' = true -> Lay B V h d v -> Lay B V' h d' v -> d = d'
  | .none, d', v, hs, x, y => by cases d' <;> (first | exact nomatch (show false = true from hs) | rfl)
  | .bool b, d', v, hs, x, y => by
    cases d' <;> (first | exact nomatch (show false = true from hs) | skip)
    simp only [Lay] at x y
    rw [x] at y; injection y with y; rw [y]
  | .int b, d', v, hs, x, y => by
    cases d' <;> (first | exact nomatch (show false = true from hs) | skip)
    simp only [Lay] at x y
    (refine byE (x) fun t hq1 => ?_; (try clear x); subst hq1); refine byE (y) fun t' y => ?_; injection y with y; rw [y]
  | .ty b, d', v, hs, x, y => by cases d' <;> (first | exact nomatch (show false = true from hs) | skip)
  | .str b, d', v, hs, x, y => by
    cases d' <;> (first | exact nomatch (show false = true from hs) | skip)
    simp only [Lay] at x y
    (refine byE (x) fun t hq2 => ?_; (try clear x); subst hq2); refine byE (y) fun t' y => ?_; injection y with y; rw [y]
  | .list l, d', v, hs, x, y => by
    cases d' <;> (first | exact nomatch (show false = true from hs) | skip)
    simp only [Lay] at x y
    (refine byEA (x) fun a hq3 hr4 => ?_; (try clear x); subst hq3; refine byA (hr4) fun _ hr5 => ?_; (try clear hr4); refine byEA (hr5) fun i p q => ?_; (try clear hr5)); (refine byEAAEA (y) fun a' e _ i' p' q' => ?_; (try clear y))
    cases e
    rw [PlainList.det p' p] at q'
    rw [Lays.det hs q q']
  | .tup l, d', v, hs, x, y => by
    cases d' <;> (first | exact nomatch (show false = true from hs) | skip)
    simp only [Lay] at x y
    (refine byEA (x) fun a hq6 hr7 => ?_; (try clear x); subst hq6; refine byA (hr7) fun _ hr8 => ?_; (try clear hr7); refine byEA (hr8) fun i p q => ?_; (try clear hr8)); (refine byEAAEA (y) fun a' e _ i' p' q' => ?_; (try clear y))
    cases e
    rw [PlainTup.det p' p] at q'
    rw [Lays.det hs q q']
  | .dict l, d', v, hs, x, y => by cases d' <;> (first | exact nomatch (show false = true from hs) | skip)
theorem Lays.det : ∀ {l l' : List D} {vs : List Value}, sims l l' = true -> Lays B V h l vs -> Lays B V' h l' vs -> l = l'
  | [], l', vs, hs, x, y => by
    simp only [Lays] at x; subst x
    cases l' with
    | nil => rfl
    | cons b l' => simp [Lays] at y
  | a :: l, l', vs, hs, x, y => by
    simp only [Lays] at x
    (refine byEEA (x) fun v r hq9 hr10 => ?_; (try clear x); subst hq9; refine byA (hr10) fun x1 x2 => ?_; (try clear hr10))
    cases l' with
    | nil => simp [Lays] at y
    | cons b l' =>
      simp only [Lays] at y
      (refine byEEAA (y) fun v' r' e y1 y2 => ?_; (try clear y))
      cases e
      have hs := (Bool.and_eq_true _ _).mp (show (sim _ _ && sims _ _) = true from hs)
      rw [Lay.det hs.1 x1 y1, Lays.det hs.2 x2 y2]
end
theorem dep_mem : ∀ {l : List D} {d : D}, d ∈ l -> dep d <= deps l
  | a :: l, d, hm => by
    rcases List.mem_cons.mp hm with rfl | hm
    · exact Nat.le_max_left _ _
    · have := dep_mem hm; exact Nat.le_trans this (Nat.le_max_right _ _)
noncomputable def EqsAt (A : Around) (s : Shared) (l l' : List D) (vs vs' : List Value) : Prop := ∃ e : Nat -> Bool, ∀ (j : Nat) (v v' : Value) (d d' : D), l[j]? = some d -> l'[j]? = some d' -> vs[j]? = some v -> vs'[j]? = some v' -> (e j = true ↔ d = d') /\ EqAt A s v v' (e j)
theorem eq_core {a b : Addr} {l l' : List D} {i i' : Array Value} (hl : s.heap.PlainList a i) (hb : s.heap.PlainList b i') (x : Lays B V s.heap l i.toList) (y : Lays B V' s.heap l' i'.toList) (hsz : l.length = l'.length) (eq : EqsAt A.in1 s l l' i.toList i'.toList) :
    ∃ e : Nat -> Bool, ((List.range i.size).all e = true ↔ l = l') /\ ∀ j (h1 : j < i.size) (h2 : j < i'.size), EqAt A.in1 s i[j] i'[j] (e j) := by
  have z1 : i.size = l.length := by rw [<- x.length]; simp
  have z2 : i'.size = l'.length := by rw [<- y.length]; simp
  (refine byE (eq) fun e he => ?_; (try clear eq))
  have lk : ∀ j (h1 : j < i.size) (h2 : j < i'.size), ∃ d d', l[j]? = some d /\ l'[j]? = some d' /\ i.toList[j]? = some i[j] /\ i'.toList[j]? = some i'[j] := fun j h1 h2 =>
    ⟨l[j]'(by omega), l'[j]'(by omega), List.getElem?_eq_getElem _, List.getElem?_eq_getElem _, by simp, by simp⟩
  refine ⟨e, ?_, fun j h1 h2 => ?_⟩
  · rw [List.all_eq_true]
    constructor
    · intro hall
      apply List.ext_getElem? 
      intro j
      by_cases hj : j < l.length
      · refine byEEAAA (lk j (by omega) (by omega)) fun d d' e1 e2 e3 e4 => ?_
        rw [e1, e2, ((he j _ _ d d' e1 e2 e3 e4).1.mp (hall j (List.mem_range.mpr (by omega))))]
      · rw [List.getElem?_eq_none (by omega), List.getElem?_eq_none (by omega)]
    · intro hll j hj
      have hj := List.mem_range.mp hj
      refine byEEAAA (lk j hj (by omega)) fun d d' e1 e2 e3 e4 => ?_
      refine (he j _ _ d d' e1 e2 e3 e4).1.mpr ?_
      rw [hll, e2] at e1; injection e1 with e1; exact e1.symm
  · refine byEEAAA (lk j h1 h2) fun d d' e1 e2 e3 e4 => ?_
    exact (he j _ _ d d' e1 e2 e3 e4).2
theorem rc_list {a b : Addr} {l l' : List D} {i i' : Array Value} (hl : s.heap.PlainList a i) (hb : s.heap.PlainList b i') (x : Lays B V s.heap l i.toList) (y : Lays B V' s.heap l' i'.toList) (hu : A.units < cLine) (eq : l.length = l'.length -> EqsAt A.in1 s l l' i.toList i'.toList) :
    ∃ c, (c = true ↔ l = l') /\ RcAt A s (.ref a) (.ref b) c := by
  have z1 : i.size = l.length := by rw [<- x.length]; simp
  have z2 : i'.size = l'.length := by rw [<- y.length]; simp
  by_cases hsz : l.length = l'.length
  · refine byEA (eq_core hl hb x y hsz (eq hsz)) fun e hall he => ?_
    exact ⟨_, hall, .lists hl.isList hb.isList (by omega) hu he⟩
  · exact ⟨false, ⟨fun z => (by cases z), fun z => absurd (by rw [z]) hsz⟩, .lists_lengths hl.isList hb.isList (by simp; omega) hu⟩
theorem rc_tup {a b : Addr} {l l' : List D} {i i' : Array Value} (hl : PlainTup s.heap a i) (hb : PlainTup s.heap b i') (x : Lays B V s.heap l i.toList) (y : Lays B V' s.heap l' i'.toList) (hu : A.units < cLine) (eq : EqsAt A.in1 s l l' i.toList i'.toList) :
    ∃ c, (c = true ↔ l = l') /\ RcAt A s (.ref a) (.ref b) c := by
  have z1 : i.size = l.length := by rw [<- x.length]; simp
  have z2 : i'.size = l'.length := by rw [<- y.length]; simp
  (refine byE (eq) fun e he => ?_; (try clear eq))
  have lk : ∀ j (h1 : j < i.size) (h2 : j < i'.size), ∃ d d', l[j]? = some d /\ l'[j]? = some d' /\ i.toList[j]? = some i[j] /\ i'.toList[j]? = some i'[j] := fun j h1 h2 =>
    ⟨l[j]'(by omega), l'[j]'(by omega), List.getElem?_eq_getElem _, List.getElem?_eq_getElem _, by simp, by simp⟩
  refine ⟨(List.range (min i.size i'.size)).all e && i.size == i'.size, ?_, .tuples hl.isTuple hb.isTuple hu fun j h1 h2 => ?_⟩
  · rw [Bool.and_eq_true, List.all_eq_true, beq_iff_eq]
    constructor
    · intro ⟨hall, hsz⟩
      apply List.ext_getElem? 
      intro j
      by_cases hj : j < l.length
      · refine byEEAAA (lk j (by omega) (by omega)) fun d d' e1 e2 e3 e4 => ?_
        rw [e1, e2, ((he j _ _ d d' e1 e2 e3 e4).1.mp (hall j (List.mem_range.mpr (by omega))))]
      · rw [List.getElem?_eq_none (by omega), List.getElem?_eq_none (by omega)]
    · intro hll
      refine ⟨fun j hj => ?_, by rw [z1, z2, hll]⟩
      have hj := List.mem_range.mp hj
      refine byEEAAA (lk j (by omega) (by omega)) fun d d' e1 e2 e3 e4 => ?_
      refine (he j _ _ d d' e1 e2 e3 e4).1.mpr ?_
      rw [hll, e2] at e1; injection e1 with e1; exact e1.symm
  · refine byEEAAA (lk j h1 h2) fun d d' e1 e2 e3 e4 => ?_
    exact (he j _ _ d d' e1 e2 e3 e4).2
mutual
theorem eqAt : ∀ {d d' : D} {v v' : Value} {A : Around}, sim d d' = true -> Lay B V s.heap d v -> Lay B V' s.heap d' v' -> A.units + dep d < cLine -> ∃ c, (c = true ↔ d = d') /\ EqAt A s v v' c
  | .none, d', v, v', A, hs, x, y, hu => by
    cases d' <;> (first | exact nomatch (show false = true from hs) | skip)
    simp only [Lay] at x y
    subst x y
    exact ⟨true, by simp, PySem.SeqAt.EqAt.same _⟩
  | .bool b, d', v, v', A, hs, x, y, hu => by
    cases d' <;> (first | exact nomatch (show false = true from hs) | skip)
    rename_i b'
    simp only [Lay] at x y
    subst x y
    exact ⟨b == b', by simp, PySem.SeqAt.EqAt.bool_bool _ _⟩
  | .int b, d', v, v', A, hs, x, y, hu => by
    cases d' <;> (first | exact nomatch (show false = true from hs) | skip)
    rename_i b'
    simp only [Lay] at x y
    (refine byE (x) fun t hq11 => ?_; (try clear x); subst hq11); (refine byE (y) fun t' hq12 => ?_; (try clear y); subst hq12)
    exact ⟨b == b', by simp, PySem.SeqAt.EqAt.int_int _ _ _ _⟩
  | .ty b, d', v, v', A, hs, x, y, hu => by cases d' <;> (first | exact nomatch (show false = true from hs) | skip)
  | .str b, d', v, v', A, hs, x, y, hu => by
    cases d' <;> (first | exact nomatch (show false = true from hs) | skip)
    rename_i b'
    simp only [Lay] at x y
    (refine byE (x) fun t hq13 => ?_; (try clear x); subst hq13); (refine byE (y) fun t' hq14 => ?_; (try clear y); subst hq14)
    exact ⟨b == b', by simp, PySem.SeqAt.EqAt.str_str _ _ _ _⟩
  | .list l, d', v, v', A, hs, x, y, hu => by
    cases d' <;> (first | exact nomatch (show false = true from hs) | skip)
    rename_i l'
    have x0 := x
    have y0 := y
    simp only [Lay] at x y
    (refine byEA (x) fun a hq15 hr16 => ?_; (try clear x); subst hq15; refine byA (hr16) fun na hr17 => ?_; (try clear hr16); refine byEA (hr17) fun i p q => ?_; (try clear hr17)); (refine byEA (y) fun a' hq18 hr19 => ?_; (try clear y); subst hq18; refine byA (hr19) fun na' hr20 => ?_; (try clear hr19); refine byEA (hr20) fun i' p' q' => ?_; (try clear hr20))
    have hu : A.units + (deps l + 1) < cLine := hu
    by_cases e : a = a'
    · subst e
      exact ⟨true, by simp; exact Lays.det hs q (by rw [PlainList.det p p']; exact q'), PySem.SeqAt.EqAt.same _⟩
    · refine byEA (rc_list p p' q q' (by omega) fun _ => eqsAt (A := A.in1) hs q q' (by show A.units + 1 + deps l < cLine; omega)) fun c hc rc => ?_
      exact ⟨c, by rw [hc]; simp, .of_refs e rc⟩
  | .tup l, d', v, v', A, hs, x, y, hu => by
    cases d' <;> (first | exact nomatch (show false = true from hs) | skip)
    rename_i l'
    simp only [Lay] at x y
    (refine byEA (x) fun a hq21 hr22 => ?_; (try clear x); subst hq21; refine byA (hr22) fun na hr23 => ?_; (try clear hr22); refine byEA (hr23) fun i p q => ?_; (try clear hr23)); (refine byEA (y) fun a' hq24 hr25 => ?_; (try clear y); subst hq24; refine byA (hr25) fun na' hr26 => ?_; (try clear hr25); refine byEA (hr26) fun i' p' q' => ?_; (try clear hr26))
    have hu : A.units + (deps l + 1) < cLine := hu
    by_cases e : a = a'
    · subst e
      exact ⟨true, by simp; exact Lays.det hs q (by rw [PlainTup.det p p']; exact q'), PySem.SeqAt.EqAt.same _⟩
    · refine byEA (rc_tup p p' q q' (by omega) (eqsAt (A := A.in1) hs q q' (by show A.units + 1 + deps l < cLine; omega))) fun c hc rc => ?_
      exact ⟨c, by rw [hc]; simp, .of_refs e rc⟩
  | .dict l, d', v, v', A, hs, x, y, hu => by cases d' <;> (first | exact nomatch (show false = true from hs) | skip)
theorem eqsAt : ∀ {l l' : List D} {vs vs' : List Value} {A : Around}, sims l l' = true -> Lays B V s.heap l vs -> Lays B V' s.heap l' vs' -> A.units + deps l < cLine -> EqsAt A s l l' vs vs'
  | [], l', vs, vs', A, hs, x, y, hu => ⟨fun _ => true, fun j v v' d d' e1 => by simp at e1⟩
  | a :: l, [], vs, vs', A, hs, x, y, hu => ⟨fun _ => true, fun j v v' d d' e1 e2 => by simp at e2⟩
  | a :: l, b :: l', vs, vs', A, hs, x, y, hu => by
    simp only [Lays] at x y
    (refine byEEA (x) fun v r hq27 hr28 => ?_; (try clear x); subst hq27; refine byA (hr28) fun x1 x2 => ?_; (try clear hr28))
    (refine byEEA (y) fun v' r' hq29 hr30 => ?_; (try clear y); subst hq29; refine byA (hr30) fun y1 y2 => ?_; (try clear hr30))
    have hs := (Bool.and_eq_true _ _).mp (show (sim a b && sims l l') = true from hs)
    have hu : A.units + max (dep a) (deps l) < cLine := hu
    have := Nat.le_max_left (dep a) (deps l)
    have := Nat.le_max_right (dep a) (deps l)
    refine byEA (eqAt (A := A) hs.1 x1 y1 (by omega)) fun c hc ec => ?_
    refine byE (eqsAt hs.2 x2 y2 (show A.units + deps l < cLine by omega)) fun e he => ?_
    refine ⟨fun j => match j with | 0 => c | j + 1 => e j, fun j w w' d d' e1 e2 e3 e4 => ?_⟩
    cases j with
    | zero => simp at e1 e2 e3 e4; subst e1 e2 e3 e4; exact ⟨hc, ec⟩
    | succ j => simp at e1 e2 e3 e4; exact he j w w' d d' e1 e2 e3 e4
end
theorem same_bool {b c : Bool} {p : Prop} (x : b = true ↔ p) (y : c = true ↔ p) : b = c := by
  cases b <;> cases c <;> simp_all
theorem in_core {l : List D} {d : D} {vs : List Value} {v : Value} {A : Around} (hs : l.all (fun z => sim z d) = true) (x : Lays B V s.heap l vs) (y : Lay B V' s.heap d v) (hu : A.units + deps l < cLine) :
    ∃ e : Value -> Bool, (∀ w, w ∈ vs -> EqAt A s w v (e w)) /\ (vs.any e = true ↔ d ∈ l) := by
  classical
  refine ⟨fun w => decide (d ∈ l /\ Lay B V s.heap d w), fun w hw => ?_, ?_⟩
  · refine byE (List.mem_iff_getElem?.mp hw) fun j hj => ?_
    have hj' : j < l.length := by rw [<- x.length]; exact (List.getElem?_eq_some_iff.mp hj).1
    refine byEA (x.get (List.getElem?_eq_getElem hj')) fun w' e' lw => ?_
    rw [hj] at e'; cases e'
    have hz := List.all_eq_true.mp hs _ (List.getElem_mem hj')
    have := dep_mem (List.getElem_mem hj')
    refine byEA (eqAt (A := A) hz lw y (by omega)) fun c hc ec => ?_
    have e : c = decide (d ∈ l /\ Lay B V s.heap d w) := same_bool hc (by
      rw [decide_eq_true_iff]
      constructor
      · intro ⟨_, q⟩
        exact Lay.det hz lw q
      · intro q
        refine ⟨q ▸ List.getElem_mem hj', ?_⟩
        rw [<- q]; exact lw)
    show EqAt A s w v (decide (d ∈ l /\ Lay B V s.heap d w))
    rw [<- e]; exact ec
  · rw [List.any_eq_true]
    constructor
    · intro ⟨w, _, q⟩
      exact (decide_eq_true_iff.mp q).1
    · intro q
      refine byE (List.mem_iff_getElem?.mp q) fun j hj => ?_
      refine byEA (x.get hj) fun w e lw => ?_
      exact ⟨w, List.mem_of_getElem? e, decide_eq_true_iff.mpr ⟨q, lw⟩⟩
noncomputable def isImm : D -> Bool
  | .none => true
  | .bool _ => true
  | .int _ => true
  | .str _ => true
  | .ty _ => true
  | _ => false
theorem LayB.imm {d : D} {v : Value} (x : LayB B V h d v) (hi : isImm d = true) : Lay B V h d v := by
  rcases x with x | ⟨a, e, c⟩
  · exact x
  · cases d <;> first | exact nomatch (show false = true from hi) | exact c.elim
theorem CmpR.notin_list {l : List D} {d : D} {b : Bool} (hi : isImm d = true) (hs : l.all (fun z => sim z d) = true) (hb : b = true ↔ d ∉ l) (hd : deps l < 50) : CmpR B k .NotIn d (.list l) b := fun A V s v₁ v₂ Q E r i dm x y h => by
  (refine byEEA (y.asList) fun a it hq41 hr42 => ?_; subst hq41; refine byA (hr42) fun p q => ?_; (try clear hr42))
  have hu := r.units
  refine byEA (in_core (A := A.in1) hs q (x.imm hi) (by show A.units + 1 + deps l < 9900; omega)) fun e he ha => ?_
  have hh := h s i (.refl _)
  have eb : b = !it.toList.any e := same_bool hb (by rw [Bool.not_eq_true', Bool.eq_false_iff]; exact not_congr ha)
  rw [eb] at hh
  exact PySem.SeqAt.notIn_listAt e p.isList (fun w hw => he w (Array.mem_toList_iff.mpr hw)) (by rw [<- Array.any_toList]; exact hh)
end
noncomputable def sl (l : List Str) : List D := l.map .str
section
variable {B : Base} {k : Nat} {K : Kinds} {Γ Γ' : G} {V V' W : Addr -> Prop} {h h' : Heap} {env : Env} {A : Around} {s : Shared}
noncomputable def BinF (B : Base) (k : Nat) (op : Operator) (d₁ d₂ d : D) : Prop := ∀ (A : Around) (V : Addr -> Prop) (s : Shared) (v₁ v₂ : Value) (Q : Value -> Shared -> Prop) (E : Value -> Shared -> Prop),
  Room k A -> Inv B A s -> LayB B V s.heap d₁ v₁ -> LayB B V s.heap d₂ v₂ -> (∀ a s', Inv B A s' -> Kp s.heap s'.heap -> s.heap.get? a = none -> B.n₀ <= a -> Content B (fun b => V b \/ b = a) s'.heap d a -> Q (.ref a) s') -> wpAny B.M A (binaryOp op v₁ v₂) Q E s
theorem EvF.bin {l r : Expr} {op : Operator} {p : Pos} {d₁ d₂ d : D} (x : EvB B k K Γ l d₁) (y : EvB B k K Γ r d₂) (z : BinF B k op d₁ d₂ d) : EvF B k K Γ (.BinOp l op r p) d :=
  .mk fun A env V s Q E rm o i g h => wpAny_BinOp (x.run A env V s _ E rm o i g fun v₁ s₁ i₁ k₁ l₁ => y.run A env V s₁ _ E rm o i₁ (g.kp k₁) fun v₂ s₂ i₂ k₂ l₂ =>
    z A V s₂ v₁ v₂ _ E rm i₂ (l₁.kp k₂) l₂ fun a s₃ i₃ k₃ n₃ lo c => h a s₃ i₃ ((k₁.trans k₂).trans k₃) (fresh_of (k₁.trans k₂) n₃) lo c)
theorem BinF.add_list (O : B.Ok) {l l' : List D} (hz : l.length + l'.length <= sizeLine) : BinF B k .Add (.list l) (.list l') (.list (l ++ l')) := fun A V s v₁ v₂ Q E rm i x y h => by
  (refine byEEA (x.asList) fun a it hq1 hr2 => ?_; subst hq1; refine byA (hr2) fun hp3 q => ?_; (try clear hr2); obtain ⟨n, ho⟩ := hp3)
  (refine byEEA (y.asList) fun a' it' hq4 hr5 => ?_; subst hq4; refine byA (hr5) fun hp6 q' => ?_; (try clear hr5); obtain ⟨n', ho'⟩ := hp6)
  have z1 : it.size = l.length := by rw [<- q.length]; simp
  have z2 : it'.size = l'.length := by rw [<- q'.length]; simp
  refine byAAAA (newList O i (items := it ++ it') (ds := l ++ l') (V := V) (by rw [Array.toList_append]; exact q.append q')) fun i' k' f' lo' c' => ?_
  exact PySem.P.add_list ho ho' (h _ _ i' k' f' lo' c') (by omega)
theorem InpR.add_int {a b : Int} : InpR B k .Add (.int a) (.int b) (.int (a + b)) := fun A V s v₁ v₂ Q E r i dm x y h => by
  (refine byE (x.asInt) fun t hq7 => ?_; subst hq7); (refine byE (y.asInt) fun u hq8 => ?_; subst hq8)
  exact PyProof.Rows.iadd_int (h _ _ (i.tok _) (.refl _) ⟨_, rfl⟩)
theorem InpR.add_str {a b : Str} (hz : a.length + b.length <= sizeLine) : InpR B k .Add (.str a) (.str b) (.str (a ++ b)) := fun A V s v₁ v₂ Q E r i dm x y h => by
  (refine byE (x.asStr) fun t hq9 => ?_; subst hq9); (refine byE (y.asStr) fun u hq10 => ?_; subst hq10)
  exact PyProof.Rows.iadd_str (fun t' tk => h _ _ (i.tok _) (.refl _) ⟨_, rfl⟩) hz
theorem TruR.str {x : Str} (hz : x.length <= sizeLine) : TruR B k (.str x) (x.length != 0) := fun A V s v Q E r i y h => by
  (refine byE (y.asStr) fun t hq11 => ?_; subst hq11)
  have big : sizeLine = 16777216 := rfl
  refine PySem.P.truthy_str (by omega) ?_
  have e : ((x.length : Int) != 0) = (x.length != 0) := by
    rw [Bool.eq_iff_iff, bne_iff_ne, bne_iff_ne]; omega
  rw [e]
  exact h _ (i.tok _) (.refl _)
theorem TruR.tup {l : List D} (hz : l.length <= sizeLine) : TruR B k (.tup l) (!l.isEmpty) := fun A V s v Q E r i y h => by
  (refine byEEA (y.asTup) fun a it hq14 hr15 => ?_; subst hq14; refine byA (hr15) fun p q => ?_; (try clear hr15))
  have big : sizeLine = 16777216 := rfl
  have z1 : it.size = l.length := by rw [<- q.length]; simp
  (refine byE (p) fun n ho => ?_; (try clear p))
  refine PyProof.Rows.truthy_tuple (items := it) ⟨_, ho, rfl, n, rfl⟩ (by omega) ?_
  have e : it.isEmpty = l.isEmpty := by
    cases l with
    | nil => simp at z1; simp [z1]
    | cons a l => simp at z1; simp; intro z; simp [z] at z1
  rw [e]
  exact h _ (i.tok _) (.refl _)
theorem Ex1.augItem {x : Str} {px pp p : Pos} {op : Operator} {ie value : Expr} {a? : Option Addr} {d di do_ dv dn d' : D} (hx : Γ.lookup x = some (.own a? d)) (w : Ev B k K Γ ie di) (g : SubR B k d di do_) (u : Ev B k K Γ value dv) (z : InpR B k op do_ dv dn) (c : SetR B k d di dn d')
    (ha : ∀ (ov iv new : Value), augStore ie ov iv new = (do holding [new, ov, iv] (PySem.setItem ov iv new); release [new, ov, iv] []; pure .next) := by intro _ _ _; rfl)
    (h1 : (x == ("__debug__" : Str)) = false := by decide) (h2 : (x == ("__classdict__" : Str)) = false := by decide) :
    Ex1 B k K Γ (.AugAssign (.Subscript (.Name x px) ie pp) op value p) .next (put Γ x (.own a? d')) := .mk fun A env V₀ W s Q E rm eo i st h => by
  refine byEAEAAA (st.r.vars x _ hx) fun vx lx a ea hf hV hc => ?_
  subst ea
  have wa : W a := by
    refine byEAA (st.own x _ _ _ hx lx) fun a' e' wa _ => ?_
    cases e'; exact wa
  refine wpAny_AugAssign_SubscriptAny (wpAny_Name (loadName_looks eo lx h2 (w.run A env _ s _ E rm eo i st.r fun iv s₁ i₁ k₁ l₁ => ?_)) h1) ha
  have st₁ := st.kp k₁
  refine byEEAA (g A _ s₁ (.ref a) iv (fun v s₂ => wpAny B.M A (eval value env) (fun v' s₃ => wpAny B.M A (inplaceOp op v v') (fun new s₄ => wpAny B.M A (PySem.setItem (.ref a) iv new) (fun _ => Q .next) E s₄) E s₃) E s₂) E rm i₁ st₁.r.dom (.inr ⟨a, rfl, hc.kp k₁⟩) (.inl l₁) fun v s₂ i₂ k₂ l₂ =>
    u.run A env _ s₂ _ E rm eo i₂ (st₁.kp k₂).r fun v' s₃ i₃ k₃ l₃ => z A _ s₃ v v' _ E rm i₃ ((st₁.kp k₂).kp k₃).r.dom (.inl (l₂.kp k₃)) (.inl l₃) fun v'' s₄ i₄ k₄ l₄ =>
    c A _ s₄ a iv v'' _ E rm i₄ hV (st.hi a wa) ((((hc.kp k₁).kp k₂).kp k₃).kp k₄) (((l₁.kp k₂).kp k₃).kp k₄) l₄ fun s₅ i₅ k₅ c₅ => by
      have kk := ((k₁.trans k₂).trans k₃).trans k₄
      have st₄ := st.kp kk
      obtain ⟨st₅, _, fwd⟩ := st₄.mut hx (lx.kp kk) k₅ c₅
      obtain ⟨o, eo, _⟩ := c₅.isData
      exact h .next s₅ W i₅ (kk.dom.trans (k₅.dom ⟨o, eo⟩)) ⟨fun _ q => .inl q, KpOff.trans' (kk.off _) (k₅.off wa)⟩ st₅ rfl) fun T id _ _ hg => ?_
  exact hg
theorem Lays.strs : ∀ (l : List (Str × Tok)), Lays B V h (sl (l.map (·.1))) (strValues l)
  | [] => by simp [sl, strValues, Lays]
  | (x, t) :: l => by
    show Lays B V h (.str x :: sl (l.map (·.1))) (.str x t :: strValues l)
    simp only [Lays]
    exact ⟨_, _, rfl, ⟨t, rfl⟩, Lays.strs l⟩
theorem Lays.toStrs : ∀ {l : List Str} {vs : List Value}, Lays B V h (sl l) vs -> ∃ z : List (Str × Tok), z.map (·.1) = l /\ vs = strValues z
  | [], vs, x => by simp only [sl, List.map_nil, Lays] at x; subst x; exact ⟨[], rfl, rfl⟩
  | y :: l, vs, x => by
    have x' : Lays B V h (.str y :: sl l) vs := x
    simp only [Lays] at x'
    (refine byEEA (x') fun v r hq16 hr17 => ?_; (try clear x'); subst hq16; refine byA (hr17) fun hp18 q => ?_; (try clear hr17); obtain ⟨t, rfl⟩ := hp18)
    refine byEA (Lays.toStrs q) fun z e1 e2 => ?_
    exact ⟨(y, t) :: z, by simp [e1], by rw [e2]; rfl⟩
theorem Meth.startswith : Meth "str" "startswith" "str.startswith" := ⟨PySem.F.plainAttrs_str, PySem.F.slot_str_startswith, PySem.F.type_str_startswith⟩
theorem BltR.startswith {x y : Str} : BltR B k (.builtin "str.startswith") [.str x, .str y] (.bool (Txt.startswith x y)) := fun A V s vs Q E rm i dm ls h => by
  (refine byEEA (ls.two) fun v w hq19 hr20 => ?_; subst hq19; refine byA (hr20) fun a b => ?_; (try clear hr20))
  (refine byE (a.asStr) fun t hq21 => ?_; subst hq21); (refine byE (b.asStr) fun u hq22 => ?_; subst hq22)
  exact PySem.SC.startswith (h _ _ i (.refl _) rfl)
theorem Meth.endswith : Meth "str" "endswith" "str.endswith" := ⟨PySem.F.plainAttrs_str, PySem.F.slot_str_endswith, PySem.F.type_str_endswith⟩
theorem BltR.endswith {x y : Str} : BltR B k (.builtin "str.endswith") [.str x, .str y] (.bool (Txt.endswith x y)) := fun A V s vs Q E rm i dm ls h => by
  (refine byEEA (ls.two) fun v w hq23 hr24 => ?_; subst hq23; refine byA (hr24) fun a b => ?_; (try clear hr24))
  (refine byE (a.asStr) fun t hq25 => ?_; subst hq25); (refine byE (b.asStr) fun u hq26 => ?_; subst hq26)
  exact PySem.SC.endswith (h _ _ i (.refl _) rfl)
theorem Meth.rfind : Meth "str" "rfind" "str.rfind" := ⟨PySem.F.plainAttrs_str, PySem.F.slot_str_rfind, PySem.F.type_str_rfind⟩
theorem BltR.rfind {x y : Str} : BltR B k (.builtin "str.rfind") [.str x, .str y] (.int (Txt.rfind x y)) := fun A V s vs Q E rm i dm ls h => by
  (refine byEEA (ls.two) fun v w hq27 hr28 => ?_; subst hq27; refine byA (hr28) fun a b => ?_; (try clear hr28))
  (refine byE (a.asStr) fun t hq29 => ?_; subst hq29); (refine byE (b.asStr) fun u hq30 => ?_; subst hq30)
  exact PySem.SC.rfind (h _ _ (i.tok _) (.refl _) ⟨_, rfl⟩)
theorem Meth.rstrip : Meth "str" "rstrip" "str.rstrip" := ⟨PySem.F.plainAttrs_str, PySem.F.slot_str_rstrip, PySem.F.type_str_rstrip⟩
theorem BltR.rstrip {x y : Str} (hz : x.length ≤ sizeLine) : BltR B k (.builtin "str.rstrip") [.str x, .str y] (.str (Txt.rstripChars x y)) := fun A V s vs Q E rm i dm ls h => by
  (refine byEEA (ls.two) fun v w hq31 hr32 => ?_; subst hq31; refine byA (hr32) fun a b => ?_; (try clear hr32))
  (refine byE (a.asStr) fun t hq33 => ?_; subst hq33); (refine byE (b.asStr) fun u hq34 => ?_; subst hq34)
  exact PySem.SC.rstripChars (fun t' tk => h _ _ (i.tok _) (.refl _) ⟨_, rfl⟩) hz
theorem Meth.join : Meth "str" "join" "str.join" := ⟨PySem.F.plainAttrs_str, PySem.F.slot_str_join, PySem.F.type_str_join⟩
theorem BltR.join {x : Str} {l : List Str} (hok : JoinOk x l = true) : BltR B k (.builtin "str.join") [.str x, .list (sl l)] (.str (Txt.join x l)) := fun A V s vs Q E rm i dm ls h => by
  (refine byEEA (ls.two) fun v w hq35 hr36 => ?_; subst hq35; refine byA (hr36) fun a b => ?_; (try clear hr36))
  (refine byE (a.asStr) fun t hq37 => ?_; subst hq37)
  (refine byEEA (b.asList) fun D it hq38 hr39 => ?_; subst hq38; refine byA (hr39) fun p q => ?_; (try clear hr39))
  refine byEA (q.toStrs) fun z e1 e2 => ?_
  have e : it = (strValues z).toArray := by rw [<- e2]
  exact PySem.SC.join (l := z) (e ▸ p.isList) e1 hok fun t' tk => h _ _ (i.tok _) (.refl _) ⟨_, rfl⟩
theorem Meth.split : Meth "str" "split" "str.split" := ⟨PySem.F.plainAttrs_str, PySem.F.slot_str_split, PySem.F.type_str_split⟩
theorem newList' (O : B.Ok) (i : Inv B A s) {ds : List D} {items : Array Value} (l : ∀ V : Addr -> Prop, Lays B V s.heap ds items.toList) (tk : Nat) :
    Inv B A { s with heap := s.heap.push { cls := .type "list", data := .seq items }, toks := tk } ∧ Kp s.heap (s.heap.push { cls := .type "list", data := .seq items }) ∧ s.heap.get? s.heap.objs.size = none ∧ B.n₀ ≤ s.heap.objs.size ∧ Content B (fun b => V b ∨ b = s.heap.objs.size) (s.heap.push { cls := .type "list", data := .seq items }) (.list ds) s.heap.objs.size := by
  refine byAAAA (newList (V := V) O i (l V)) fun a b c d e => ?_
  exact ⟨a.tok tk, b, c, d, e⟩
theorem BltF.split (O : B.Ok) {x y : Str} (hy : (y.length == 0) = false) (hz : x.length <= sizeLine) (hz2 : (Builtin.Str.partsBetween x (Builtin.Str.occurrences x y 0 x.length (x.length + 1)) y.length).length <= sizeLine) :
    BltF B k (.builtin "str.split") [.str x, .str y] (.list (sl (Txt.split x y))) := fun A V s vs Q E rm i dm ls h => by
  (refine byEEA (ls.two) fun v w hq40 hr41 => ?_; subst hq40; refine byA (hr41) fun a b => ?_; (try clear hr41))
  (refine byE (a.asStr) fun t hq42 => ?_; subst hq42); (refine byE (b.asStr) fun u hq43 => ?_; subst hq43)
  have one : Txt.split x y = [x] → Q (.ref s.heap.objs.size) { s with heap := s.heap.push { cls := .type "list", data := .seq [Value.str x t].toArray } } := fun e => by
    rw [e] at h
    refine byAAAA (newList' (V := V) O i (ds := sl [x]) (items := [Value.str x t].toArray) (fun V => Lays.strs [(x, t)]) s.toks) fun i' k' f' lo' c' => ?_
    exact h _ _ i' k' f' lo' c'
  cases h1 : (decide (x.length < y.length) || decide (Builtin.Str.strKind x < Builtin.Str.strKind y))
  · cases hf : (Builtin.Str.occurrences x y 0 x.length (x.length + 1)).isEmpty
    · refine call_meets PySem.F.slot_str_split (typeIs_str _ _ _) PySem.F.entry_str_split (PySem.F.args_str_split_2 _ _) (meets_str_split_sep x y t u h1 hy hf hz hz2) ?_
      have e : Txt.split x y = Builtin.Str.partsBetween x (Builtin.Str.occurrences x y 0 x.length (x.length + 1)) y.length := (if_neg (by rw [h1]; simp)).trans (if_neg (by rw [hf]; simp))
      rw [e] at h
      refine byAAAA (newList' (V := V) O i (ds := sl (Builtin.Str.partsBetween x (Builtin.Str.occurrences x y 0 x.length (x.length + 1)) y.length)) (items := (strsFrom s.toks (Builtin.Str.partsBetween x (Builtin.Str.occurrences x y 0 x.length (x.length + 1)) y.length)).toArray)
        (fun V => by
          have := Lays.strs (B := B) (V := V) (h := s.heap) (numbered s.toks (Builtin.Str.partsBetween x (Builtin.Str.occurrences x y 0 x.length (x.length + 1)) y.length))
          rw [numbered_texts, <- strsFrom_eq] at this
          exact this) (s.toks + (Builtin.Str.partsBetween x (Builtin.Str.occurrences x y 0 x.length (x.length + 1)) y.length).length)) fun i' k' f' lo' c' => ?_
      exact h _ _ i' k' f' lo' c'
    · exact call_meets PySem.F.slot_str_split (typeIs_str _ _ _) PySem.F.entry_str_split (PySem.F.args_str_split_2 _ _) (meets_str_split_not_found x y t u h1 hy hf) (one ((if_neg (by rw [h1]; simp)).trans (if_pos hf)))
  · exact call_meets PySem.F.slot_str_split (typeIs_str _ _ _) PySem.F.entry_str_split (PySem.F.args_str_split_2 _ _) (meets_str_split_cannot_occur x y t u h1) (one (if_pos h1))
end
section
variable {B : Base} {k : Nat} {K : Kinds} {Γ Γ' : G} {V V' V₀ W : Addr -> Prop} {h h' : Heap} {env : Env} {A : Around} {s : Shared}
theorem Stm.weak {Γ' : G} (st : Stm B V₀ W h env Γ) (hw : ∀ y sl, Γ'.lookup y = some sl -> Γ.lookup y = some sl) : Stm B V₀ W h env Γ' :=
  ⟨⟨st.r.domP, fun x sl e => st.r.vars x sl (hw x sl e)⟩, st.hi, st.frame, st.loc, st.cells, st.apart, st.kinds, fun x a? d v e => st.own x a? d v (hw _ _ e), fun x y ax dx ay dy v ex ey => st.apo x y ax dx ay dy v (hw _ _ ex) (hw _ _ ey)⟩
theorem Ex.weak {Γ₂ : G} {stm : List Stmt} {o : Out} (x : Ex B k K Γ stm o Γ') (hw : ∀ y sl, Γ₂.lookup y = some sl -> Γ'.lookup y = some sl) : Ex B k K Γ stm o Γ₂ := .mk fun A env V₀ W s Q E rm eo i st h =>
  x.run A env V₀ W s Q E rm eo i st fun fl s' W' i' d e st' ou => h fl s' W' i' d e (st'.weak hw) ou
theorem Ex.pre {Γ₂ : G} {stm : List Stmt} {o : Out} (x : Ex B k K Γ₂ stm o Γ') (hw : ∀ y sl, Γ₂.lookup y = some sl -> Γ.lookup y = some sl) : Ex B k K Γ stm o Γ' := .mk fun A env V₀ W s Q E rm eo i st h =>
  x.run A env V₀ W s Q E rm eo i (st.weak hw) h
theorem put_same {x : Str} {sl : Slot} (hx : Γ.lookup x = some sl) (y : Str) (sl' : Slot) (e : (put Γ x sl).lookup y = some sl') : Γ.lookup y = some sl' := by
  rw [put_look] at e
  by_cases hy : (y == x) = true
  · rw [if_pos hy] at e; rw [beq_iff_eq.mp hy, hx]; exact e
  · rw [if_neg hy] at e; exact e
theorem occ_empty (x y : Str) : (Builtin.Str.occurrences x y 0 x.length 1).isEmpty = (Builtin.Str.occurrences x y 0 x.length (x.length + 1)).isEmpty := by
  have h1 := PySem.StrLaws.occ_head x y 1 (Nat.le_refl _)
  have h2 := PySem.StrLaws.occ_head x y (x.length + 1) (by omega)
  rcases h1 with ⟨e1, n1⟩ | ⟨i, r, e1, a1, n1⟩ <;> rcases h2 with ⟨e2, n2⟩ | ⟨j, r', e2, a2, n2⟩
  · rw [e1, e2]
  · exact absurd a2 (n1 j)
  · exact absurd a1 (n2 i)
  · rw [e1, e2]; rfl
theorem Meth.replace : Meth "str" "replace" "str.replace" := ⟨PySem.F.plainAttrs_str, PySem.F.slot_str_replace, PySem.F.type_str_replace⟩
theorem Ex1.escape (O : B.Ok) {x : Str} {t c r : Str} {n n' n'' : Nat} {p1 p2 p3 p4 p5 p6 p7 p8 p9 p10 p11 : Pos} (hx : Γ.lookup x = some (.sh (.str t))) (hk : K x = some .local \/ K x = some .cell)
    (hcr : (c == r) = false := by rfl) (ht : t.length ≤ 1048576) (hr : r.length ≤ 14 := by decide) (hl : (p6.endLine == p9.line) = true := by rfl) (h1 : (x == ("__debug__" : Str)) = false := by decide) (h2 : (x == ("__classdict__" : Str)) = false := by decide)
    (hsw : ∀ env, swapsWithSole [.Name x p4] (.Call (.Attribute (.Name x p5) "replace" p6) [.Constant (.str c) n' p7, .Constant (.str r) n'' p8] [] p9) p10.line env = pure false := by intro _; rfl)
    (hst : ∀ env, swappedStores [.Name x p4] (.Call (.Attribute (.Name x p5) "replace" p6) [.Constant (.str c) n' p7, .Constant (.str r) n'' p8] [] p9) env = pure none := by intro _; rfl)
    (hm : behindInMarks .In (.Name x p2) = false := by rfl) (hb : ∀ env, attributeBase (.Name x p5) "replace" env (eval (.Name x p5) env) = eval (.Name x p5) env := by intro _; rfl) :
    Ex1 B k K Γ (.If (.Compare (.Constant (.str c) n p1) [.In] [.Name x p2] p3) [.Assign [.Name x p4] (.Call (.Attribute (.Name x p5) "replace" p6) [.Constant (.str c) n' p7, .Constant (.str r) n'' p8] [] p9) p10] [] p11) .next (put Γ x (.sh (.str (Txt.replace t c r)))) := .mk fun A env V₀ W s Q E rm eo i st h => by
  refine byEA (st.r.vars x _ hx) fun v l hv => ?_
  obtain ⟨tt, rfl⟩ : ∃ tt, v = .str t tt := hv
  refine wpAny_If (wpAny_isTrue_Compare1 (wpAny_Constant_str (wpAny_Name (loadName_looks eo l h2 (PyProof.Rows.in_str (wpAny_truthy_bool ?_))) h1)) hm)
  have i₁ := i.tok (s.toks + 1)
  cases ho : (Builtin.Str.occurrences t c 0 t.length 1).isEmpty
  · simp only [Bool.not_false, if_true]
    refine wpAny_execs_cons (wpAny_Assign_stores ?_ (hsw env) (hst env))
    refine wpAny_Call_method_lateS (hb env) rfl hl (wpAny_Name (loadName_looks eo l h2 ?_) h1)
    refine ⟨"str", "str.replace", Meth.replace.plain, Meth.replace.slot, Meth.replace.ty, rfl, (fun a e => nomatch e), ?_⟩
    refine callWith_blt (by rfl) (by rfl) ?_
    rw [starEach_cons rfl, starEach_cons rfl, starEach_nil]
    refine Calls.spliced_cons (wpAny_Constant_str (k := n') (pos := p7) (Calls.spliced_cons (wpAny_Constant_str (k := n'') (pos := p8) (Calls.spliced_nil ?_))))
    refine PySem.SC.replaceW (Nat.succ_ne_zero _) (Nat.succ_ne_zero _) (by show s.toks + 1 ≠ s.toks + 1 + 1; omega) hcr ht hr fun t' tk => ?_
    rw [assignEach_cons rfl]
    refine (Asg.name (Γ := Γ) (d := .str (Txt.replace t c r)) (K := K) O hk).run A env V₀ W _ _ _ E rm eo (i.tok tk) st ⟨t', rfl⟩ fun s₂ i₂ d₂ e₂ st₂ => ?_
    exact wpAny_execs_nil (h .next s₂ W i₂ d₂ e₂ st₂ rfl)
  · simp only [Bool.not_true, Bool.false_eq_true, if_false]
    refine wpAny_execs_nil ?_
    have e : Txt.replace t c r = t := by
      unfold Txt.replace
      rw [<- occ_empty, ho]; rfl
    rw [e] at h
    exact h .next _ W (i.tok _) (.refl _) (.refl _ _) (st.weak (put_same hx)) rfl
end
section
variable {B : Base} {k : Nat} {K : Kinds} {Γ Γ' : G} {V V' V₀ W : Addr -> Prop} {h h' : Heap} {env : Env} {A : Around} {s : Shared}
noncomputable def runI : Int -> Nat -> List D
  | _, 0 => []
  | a, n + 1 => .int a :: runI (a + 1) n
theorem inv_extBut (O : B.Ok) {I : Addr} {o : Obj} (inv : Inv B A s) (hs : Heap.ExtBut I s.heap h') (lo : B.n₀ ≤ I) (e : s.heap.get? I = some o) (hc : o.cls ≠ .type "frame" ∧ o.cls ≠ .type "code") : Inv B A { s with heap := h' } := by
  refine ⟨O.step _ _ inv.good fun b o hb e' => hs b o (by rintro rfl; exact hb.elim (fun hb => absurd lo (Nat.not_le.mpr hb)) fun c => by rw [e] at e'; cases e'; exact hc.2 c) e', inv.gens, inv.os, ?_⟩
  refine byEA (inv.fr) fun l e' hl => ?_
  refine ⟨l, e', fun env' he => ?_⟩
  (refine byA (hl env' he) fun hk hr1 => ?_; refine byEE (hr1) fun L o' hr2 => ?_; (try clear hr1); refine byEEAAA (hr2) fun es ep f1 f2 f3 hr3 => ?_; (try clear hr2); refine byA (hr3) fun f4 f5 => ?_; (try clear hr3))
  exact ⟨hk, L, o', es, ep, f1, f2, hs L o' (by rintro rfl; rw [e] at f3; cases f3; exact absurd f4 hc.1) f3, f4, f5⟩
theorem Iter.range (O : B.Ok) {A : Around} (hh : A.handled = none) {I : Addr} (lo : B.n₀ <= I) :
    Iter B A I (fun b => b = I) (fun _ => False) false (fun V ds h => ∃ x n, ds = runI x n /\ IsRangeIter h I x n 1) (fun V ds v h => ∃ x n, ds = runI x n /\ IsRangeIter h I x n 1) where
  frame := fun V V' ds h h' hx hv hk => by (refine byEEA (hx) fun x n e hi => ?_; (try clear hx)); exact ⟨x, n, e, hk _ _ hi (.inl rfl)⟩
  item := fun V d ds s Q E inv _ hx hQ => by
    (refine byEEA (hx) fun x n e hi => ?_; (try clear hx))
    cases n with
    | zero => cases e
    | succ n =>
      refine byA (List.cons.inj e) fun e1 e2 => ?_
      subst e1 e2
      refine wpAny_pyNext_range_item (prog := B.prog) (w := B.w) hi (by omega) fun h' hit hs => ?_
      refine hQ _ { s with heap := h', toks := s.toks + 1 } (inv.sameBut O hs lo fun o e => by rw [hi] at e; cases e; simp) ⟨x + 1, n, rfl, ?_⟩ (fun b o e nb => (hs.2 b nb).trans e) ⟨_, rfl⟩
      have e3 : (((n + 1 : Nat) : Int) - 1) = n := by omega
      rw [e3] at hit; exact hit
  done := fun V s Q E inv hx hQ => by
    (refine byEEA (hx) fun x n e hi => ?_; (try clear hx))
    cases n with
    | succ n => cases e
    | zero =>
      refine wpAny_pyNext_range_end (prog := B.prog) (w := B.w) hh hi (by simp) fun h' hs => hQ { s with heap := h' } (inv_extBut O inv hs lo hi (by simp)) fun b o e nb => hs b o nb e
  self := fun V ds s Q E hx hQ => by (refine byEEA (hx) fun x n e hi => ?_; (try clear hx)); exact wpAny_pyIter_rangeiter (prog := B.prog) (w := B.w) hi hQ
  own := fun V ds ts n p v s Q E inv hx hQ => by (refine byEEA (hx) fun x m e hi => ?_; (try clear hx)); exact own_plain hi rfl (by decide) (hQ s inv ⟨x, m, e, hi⟩ fun _ _ e _ => e)
  plain := fun _ _ _ _ _ x => x
  there := fun V ds h b hx q => by (refine byEEA (hx) fun x n e hi => ?_; (try clear hx)); exact ⟨_, q ▸ hi, priv_of (c := "range_iterator") rfl (by decide)⟩
  thereO := fun V ds v h b hx q => by (refine byEEA (hx) fun x n e hi => ?_; (try clear hx)); exact ⟨_, q ▸ hi, priv_of (c := "range_iterator") rfl (by decide)⟩
  data := fun V ds h b _ q => q.elim
theorem range_iter (O : B.Ok) (rm : Room (k + 1) A) {a b : Int} {n : Nat} (hn : (if a < b then b - a else 0) = (n : Int)) (hsm : Builtin.Range.small a b 1 = true) {r : Addr} {t u v : Tok} {Q : Value -> Shared -> Prop} {E : Value -> Shared -> Prop} (hr : IsRange s.heap r a b 1 t u v) (inv : Inv B A s)
    (h : ∀ I fp bp St StO s', Inv B A s' -> Kp s.heap s'.heap -> Iter B A I fp bp false St StO -> St V (runI a n) s'.heap -> (∀ b, fp b -> s.heap.get? b = none) -> (∀ b, bp b -> False) -> Q (.ref I) s') : wpAny B.M A (pyIter (.ref r)) Q E s := by
  have kp : ∀ b' o, s.heap.get? b' = some o → (s.heap.push { cls := .type "range_iterator", data := .fields #[rawInt a, rawInt (Builtin.Range.rangeSize a b 1), rawInt 1] }).get? b' = some o := fun b o e => Heap.get?_push_of_some _ e
  refine wpAny_pyIter_range (prog := B.prog) (w := B.w) hr hsm ?_
  refine h _ _ _ _ _ _ (inv.keep O (tk := s.toks) kp) (.of kp) (Iter.range O (rm.handled (Nat.succ_pos _)) (O.size _ inv.good)) ⟨a, n, rfl, ?_⟩ ?_ (fun _ q => q)
  · have e : Builtin.Range.rangeSize a b 1 = n := by rw [rangeSize_one]; exact hn
    rw [<- e]
    exact Heap.get?_push_size _ rfl
  · rintro b rfl
    exact none_size (Nat.le_refl _)
theorem EvI.range2 (O : B.Ok) {p p' : Pos} {ea eb : Expr} {a b : Int} {n : Nat} (bl : BltAt B "range" (.type "range")) (hK : K "range" = some .globalImplicit) (y : EvLB B (k + 1) K Γ [ea, eb] [.int a, .int b]) (hn : (if a < b then b - a else 0) = (n : Int)) (hsm : Builtin.Range.small a b 1 = true)
    (hs : noStars [ea, eb] = true := by rfl) : EvI B (k + 1) K Γ (.Call (.Name "range" p) [ea, eb] [] p') false (runI a n) := .mk fun A env V s Q E rm eo i g h =>
  Call_ (glob_blt O bl hK eo i (callWith_blt (f := .type "range") rfl hs (y.run p' A env V s _ E rm eo i g fun vs s₁ i₁ k₁ l₁ => by
    (refine byEEA (l₁.two) fun v w hq4 hr5 => ?_; subst hq4; refine byA (hr5) fun x z => ?_; (try clear hr5))
    (refine byE (x.asInt) fun t hq6 => ?_; subst hq6)
    (refine byE (z.asInt) fun u hq7 => ?_; subst hq7)
    have kp : ∀ b' o, s₁.heap.get? b' = some o → (s₁.heap.push { cls := .type "range", data := .fields #[.int a t, .int b u, .int 1 s₁.toks] }).get? b' = some o := fun b o e => Heap.get?_push_of_some _ e
    refine call_range_2 (prog := B.prog) (w := B.w) ?_
    refine range_iter (V := V) O rm hn hsm (s := { s₁ with heap := s₁.heap.push { cls := .type "range", data := .fields #[.int a t, .int b u, .int 1 s₁.toks] }, toks := s₁.toks + 1 }) (IsRange.new ..) (i₁.keep O kp) fun I fp bp St StO s' i' k' it st nf nb => ?_
    exact h I fp bp St StO s' i' ((k₁.trans (.of kp)).trans k') it st (fun b q => fresh_of (k₁.trans (.of kp)) (nf b q)) nb)))
theorem EvI.range1 (O : B.Ok) {p p' : Pos} {eb : Expr} {b : Int} {n : Nat} (bl : BltAt B "range" (.type "range")) (hK : K "range" = some .globalImplicit) (y : EvLB B (k + 1) K Γ [eb] [.int b]) (hn : (if 0 < b then b - 0 else 0) = (n : Int)) (hsm : Builtin.Range.small 0 b 1 = true)
    (hs : noStars [eb] = true := by rfl) : EvI B (k + 1) K Γ (.Call (.Name "range" p) [eb] [] p') false (runI 0 n) := .mk fun A env V s Q E rm eo i g h =>
  Call_ (glob_blt O bl hK eo i (callWith_blt (f := .type "range") rfl hs (y.run p' A env V s _ E rm eo i g fun vs s₁ i₁ k₁ l₁ => by
    (refine byEA (l₁.one) fun v hq8 x => ?_; subst hq8)
    (refine byE (x.asInt) fun t hq9 => ?_; subst hq9)
    have kp : ∀ b' o, s₁.heap.get? b' = some o → (s₁.heap.push { cls := .type "range", data := .fields #[.int 0 s₁.toks, .int b t, .int 1 (s₁.toks + 1)] }).get? b' = some o := fun b o e => Heap.get?_push_of_some _ e
    refine call_range_1 (prog := B.prog) (w := B.w) ?_
    refine range_iter (V := V) O rm hn hsm (s := { s₁ with heap := s₁.heap.push { cls := .type "range", data := .fields #[.int 0 s₁.toks, .int b t, .int 1 (s₁.toks + 1)] }, toks := s₁.toks + 1 + 1 }) (IsRange.new ..) (i₁.keep O kp) fun I fp bp St StO s' i' k' it st nf nb => ?_
    exact h I fp bp St StO s' i' ((k₁.trans (.of kp)).trans k') it st (fun b q => fresh_of (k₁.trans (.of kp)) (nf b q)) nb)))
end
section
variable {B : Base} {k : Nat} {K : Kinds} {Γ Γ' : G} {V V' V₀ W : Addr -> Prop} {h h' : Heap} {env : Env} {A : Around} {s : Shared}
noncomputable def numD : Nat -> List D -> List D
  | _, [] => []
  | i, d :: r => .tup [.int (i : Int), d] :: numD (i + 1) r
theorem inv_off (O : B.Ok) {fp : Addr → Prop} {tk : Nat} (inv : Inv B A s) (x : ∀ b o, s.heap.get? b = some o → ¬ fp b → h'.get? b = some o) (lo : ∀ b, fp b → B.n₀ ≤ b) (hc : ∀ b o, fp b → s.heap.get? b = some o → o.cls ≠ .type "frame" ∧ o.cls ≠ .type "code") : Inv B A { s with heap := h', toks := tk } := by
  refine ⟨O.step _ _ inv.good fun b o hb e => x b o e (fun f => hb.elim (fun hb => absurd (lo b f) (Nat.not_le.mpr hb)) (hc b o f e).2), inv.gens, inv.os, ?_⟩
  refine byEA (inv.fr) fun l e' hl => ?_
  refine ⟨l, e', fun env' he => ?_⟩
  (refine byA (hl env' he) fun hk hr1 => ?_; refine byEE (hr1) fun L o' hr2 => ?_; (try clear hr1); refine byEEAAA (hr2) fun es ep f1 f2 f3 hr3 => ?_; (try clear hr2); refine byA (hr3) fun f4 f5 => ?_; (try clear hr3))
  exact ⟨hk, L, o', es, ep, f1, f2, x L o' f3 (fun f => (hc L o' f f3).1 f4), f4, f5⟩
structure EnSt (B : Base) (I J ax : Addr) (items : Array Value) (V : Addr -> Prop) (ds : List D) (h : Heap) (i : Nat) (rest : List D) : Prop where
  e : ds = numD i rest
  it : h.IsListIter J ax i
  ls : h.IsList ax items
  nv : ¬ V ax
  ly : Lays B V h rest (items.toList.drop i)
theorem EnSt.jt {I J ax : Addr} {items : Array Value} {ds : List D} {i : Nat} {rest : List D} (q : EnSt B I J ax items V ds h i rest) : ∃ o, h.get? J = some o ∧ o.cls = .type "list_iterator" := byEAA q.it fun o a b _ => ⟨o, a, b⟩
theorem EnSt.go {I J ax : Addr} {items : Array Value} {ds ds' : List D} {i i' : Nat} {rest rest' : List D} (q : EnSt B I J ax items V ds h i rest) (k : ∀ b o, h.get? b = some o -> IsData o -> (¬ V b \/ b = ax) -> h'.get? b = some o) (nv : ∀ b, V' b -> V b \/ h.get? b = none) (e : ds' = numD i' rest') (it : h'.IsListIter J ax i') (ly : Lays B V h rest' (items.toList.drop i')) : EnSt B I J ax items V' ds' h' i' rest' := by
  refine byEAA q.ls fun ol b1 b2 b3 => ?_
  refine ⟨e, it, ⟨ol, k _ _ b1 (.inl b2) (.inr rfl), b2, b3⟩, fun w => ?_, ly.mono fun b o nb e d => ⟨fun w => (nv b w).elim nb (fun z => by rw [e] at z; cases z), k _ _ e d (.inl nb)⟩⟩
  exact (nv _ w).elim q.nv fun w => by rw [b1] at w; cases w
theorem numD_cons {d : D} {ds : List D} {i : Nat} {r : List D} (e : d :: ds = numD i r) {c : Prop} (k : ∀ x r', r = x :: r' -> d = .tup [.int (i : Int), x] -> ds = numD (i + 1) r' -> c) : c := by
  cases r with
  | nil => cases e
  | cons x r' => exact k x r' rfl (List.cons.inj e).1 (List.cons.inj e).2
theorem numD_nil {i : Nat} {r : List D} (e : [] = numD i r) : r = [] := by
  cases r with
  | nil => rfl
  | cons x r' => cases e
theorem drop_item {items : Array Value} {i : Nat} {d : D} {r : List D} (h5 : Lays B V h (d :: r) (items.toList.drop i)) {c : Prop} (k : ∀ v, items[i]? = some v -> Lay B V h d v -> Lays B V h r (items.toList.drop (i + 1)) -> c) : c := by
  simp only [Lays] at h5
  refine byEEAA h5 fun v r' e lv lr => ?_
  have e2 := congrArg (fun l => l[0]?) e
  refine k v (by simpa [List.getElem?_drop] using e2) lv ?_
  rw [<- List.drop_drop, e]; exact lr
theorem enum_nd {I J : Addr} {i : Int} {old : Value} {oJ : Obj} (h1 : IsEnum h I J i old) (j1 : h.get? J = some oJ) (j2 : oJ.cls = .type "list_iterator") (b : Addr) (o : Obj) (e : h.get? b = some o) (d : IsData o) (q : b = I ∨ b = J) : False :=
  q.elim (fun q => by rw [q, h1] at e; cases e; exact notData_of (c := "enumerate") rfl (by decide) d) fun q => by rw [q, j1] at e; cases e; exact notData_of j2 (by decide) d
theorem enum_ndO {I J : Addr} {i : Int} {old : Value} {t : Addr} {oJ : Obj} (h1 : IsEnumOut h I J i old t) (j1 : h.get? J = some oJ) (j2 : oJ.cls = .type "list_iterator") (b : Addr) (o : Obj) (e : h.get? b = some o) (d : IsData o) (q : b = I ∨ b = J) : False :=
  q.elim (fun q => by rw [q, h1] at e; cases e; exact notData_of (c := "enumerate") rfl (by decide) d) fun q => by rw [q, j1] at e; cases e; exact notData_of j2 (by decide) d
theorem Iter.enum (O : B.Ok) {A : Around} (hh : A.handled = none) {I J ax : Addr} {items : Array Value} (hij : I ≠ J) (hai : ax ≠ I) (haj : ax ≠ J) (lo : B.n₀ <= I) (lo' : B.n₀ <= J) :
    Iter B A I (fun b => b = I \/ b = J) (fun _ => False) true
      (fun V ds h => ∃ (i : Nat) (rest : List D), ∃ old, IsEnum h I J (i : Int) old /\ EnSt B I J ax items V ds h i rest)
      (fun V ds v h => ∃ (i : Nat) (rest : List D), ∃ old t, (v = .ref t /\ IsEnumOut h I J (i : Int) old t) /\ EnSt B I J ax items V ds h i rest) where
  frame := fun V V' ds h h' hx hv hk => hx.elim fun i hx => hx.elim fun rest hx => byEA hx fun old h1 q => by
    refine byEAA q.it fun oi a1 a2 a3 => ?_
    exact ⟨i, rest, old, hk _ _ h1 (.inl (.inl rfl)), q.go (fun b o e d nb => hk _ _ e (.inr (.inr ⟨nb.elim id fun z => z ▸ q.nv, d⟩))) hv q.e ⟨oi, hk _ _ a1 (.inl (.inr rfl)), a2, a3⟩ q.ly⟩
  item := fun V d ds s Q E inv dm hx hQ => hx.elim fun i hx => hx.elim fun rest hx => byEA hx fun old h1 q => numD_cons q.e fun d' rest' er ed eds => drop_item (er ▸ q.ly) fun v hv lv lr => byEA q.jt fun oJ j1 j2 => by
    refine wpAny_pyNext_enum_item (prog := B.prog) (w := B.w) h1 q.it q.ls (x := v) hv hij fun h' he hit ht hz hk => ?_
    have off : ∀ b o, s.heap.get? b = some o -> ¬ (b = I \/ b = J) -> h'.get? b = some o := fun b o e nb => hk b o (fun q => nb (.inl q)) (fun q => nb (.inr q)) e
    have nI := enum_nd h1 j1 j2
    refine hQ _ _ (inv_off O inv off (fun b q => q.elim (fun q => q ▸ lo) fun q => q ▸ lo') fun b o q e => ?_) ⟨i + 1, rest', _, _, ⟨rfl, he⟩, q.go (fun b o e d _ => off b o e (nI b o e d)) (fun b => .inl) eds hit lr⟩ off ?_
    · refine q.elim (fun q => ?_) fun q => ?_
      · rw [q, h1] at e; cases e; simp
      · rw [q, j1] at e; cases e; rw [j2]; simp
    · rw [ed]
      simp only [Lay]
      refine ⟨_, rfl, fun q => ?_, _, ⟨_, ht⟩, ?_⟩
      · refine q.elim (fun q => ?_) fun q => q.elim (fun q => absurd (q ▸ Heap.lt_size h1) (Nat.lt_irrefl _)) fun q => absurd (q ▸ Heap.lt_size j1) (Nat.lt_irrefl _)
        refine byE (dm _ q) fun o e => ?_
        rw [none_size (Nat.le_refl _)] at e; cases e
      · simp only [Lays]
        exact ⟨_, _, rfl, ⟨_, rfl⟩, _, _, rfl, lv.mono fun b o nb e d => ⟨fun q => q.elim nb (nI b o e d), off b o e (nI b o e d)⟩, rfl⟩
  done := fun V s Q E inv hx hQ => hx.elim fun i hx => hx.elim fun rest hx => byEA hx fun old h1 q => byEA q.jt fun oJ j1 j2 => by
    have ly := q.ly
    have hl : items.size <= i := by
      rw [numD_nil q.e] at ly
      simp only [Lays] at ly
      simpa using ly
    exact wpAny_pyNext_enum_end (prog := B.prog) (w := B.w) hh h1 q.it q.ls (by simp [hl]) fun h' hs => hQ { s with heap := h' } (inv_extBut O inv hs lo' j1 (by rw [j2]; simp)) fun b o e nb => hs b o (fun q => nb (.inr q)) e
  self := fun V ds s Q E hx hQ => hx.elim fun i hx => hx.elim fun rest hx => byEA hx fun old h1 q => wpAny_pyIter_enum (prog := B.prog) (w := B.w) h1 hQ
  own := fun V ds ts n p v s Q E inv hx hQ => hx.elim fun i hx => hx.elim fun rest hx => hx.elim fun old hx => byEA hx fun t hv q => byEA q.jt fun oJ j1 j2 => byEAA q.it fun oi a1 a2 a3 => by
    rw [hv.1]
    have h1 := hv.2
    refine wpAny_letOwnedTupleGo_enum (prog := B.prog) (w := B.w) h1 fun h' he hs => ?_
    have off : ∀ b o, s.heap.get? b = some o -> ¬ (b = I \/ b = J) -> h'.get? b = some o := fun b o e nb => (hs.2 b fun q => nb (.inl q)).trans e
    have nI := enum_ndO h1 j1 j2
    exact hQ { s with heap := h' } (inv.sameBut O (tk := s.toks) hs lo fun o e => by rw [h1] at e; cases e; simp) ⟨i, rest, old, he, q.go (fun b o e d _ => off b o e (nI b o e d)) (fun b => .inl) q.e ⟨oi, (hs.2 J (Ne.symm hij)).trans a1, a2, a3⟩ q.ly⟩ off
  plain := fun e => nomatch e
  there := fun V ds h b hx z => hx.elim fun i hx => hx.elim fun rest hx => byEA hx fun old h1 q => byEA q.jt fun oJ j1 j2 => z.elim (fun z => z ▸ ⟨_, h1, priv_of (c := "enumerate") rfl (by decide)⟩) fun z => z ▸ ⟨_, j1, priv_of j2 (by decide)⟩
  thereO := fun V ds v h b hx z => hx.elim fun i hx => hx.elim fun rest hx => hx.elim fun old hx => byEA hx fun t hv q => byEA q.jt fun oJ j1 j2 => z.elim (fun z => z ▸ ⟨_, hv.2, priv_of (c := "enumerate") rfl (by decide)⟩) fun z => z ▸ ⟨_, j1, priv_of j2 (by decide)⟩
  data := fun V ds h b _ q => q.elim
theorem EvI.enum (O : B.Ok) {p p' : Pos} {e : Expr} {ds : List D} (bl : BltAt B "enumerate" (.type "enumerate")) (hK : K "enumerate" = some .globalImplicit) (y : EvL B (k + 1) K Γ [e] [.list ds])
    (hs : noStars [e] = true := by rfl) : EvI B (k + 1) K Γ (.Call (.Name "enumerate" p) [e] [] p') true (numD 0 ds) := .mk fun A env V s Q E rm eo i g h =>
  Call_ (glob_blt O bl hK eo i (callWith_blt (f := .type "enumerate") rfl hs (y.run p' A env V s _ E rm eo i g fun vs s₁ i₁ k₁ l₁ => by
    simp only [Lays, Lay] at l₁
    (refine byEEA (l₁) fun v r hq18 hr19 => ?_; (try clear l₁); subst hq18; refine byA (hr19) fun hp20 hq21 => ?_; (try clear hr19); obtain ⟨a, rfl, na, items, il, ls⟩ := hp20; subst hq21)
    refine call_enumerate_list (prog := B.prog) (w := B.w) il.isList fun h' he hit hz kp => ?_
    have lo := O.size _ i₁.good
    have i₂ : Inv B A { s₁ with heap := h' } := i₁.keep O (tk := s₁.toks) kp
    refine wpAny_pyIter_enum (prog := B.prog) (w := B.w) (s := { s₁ with heap := h' }) he ?_
    (refine byE (il) fun n ho => ?_; (try clear il))
    have la := Heap.lt_size ho
    refine h _ _ _ _ _ { s₁ with heap := h' } i₂ (k₁.trans (.of kp)) (Iter.enum O (rm.handled (Nat.succ_pos _)) (items := items) (ax := a) (Nat.succ_ne_self _) (Nat.ne_of_lt (Nat.lt_succ_of_lt la)) (Nat.ne_of_lt la) (Nat.le_succ_of_le lo) lo) ⟨0, ds, _, he, rfl, hit, ⟨_, kp _ _ ho, rfl, n, rfl⟩, na, ls.kp (.of kp)⟩ (fun b q => ?_) fun _ q => q
    refine fresh_of k₁ ?_
    rcases q with rfl | rfl
    · exact none_size (Nat.le_succ _)
    · exact none_size (Nat.le_refl _))))
end
section
variable {B : Base} {k : Nat} {K : Kinds} {Γ Γ' : G} {V V' V₀ W : Addr -> Prop} {h h' : Heap} {env : Env} {A : Around} {s : Shared}
end
noncomputable def strLe (a b : Str) : Bool := decide (¬ b.cps.toList < a.cps.toList)
noncomputable def sortS (l : List Str) : List Str := l.mergeSort strLe
theorem strLe_iff {a b : Str} : strLe a b = true ↔ a.cps.toList <= b.cps.toList := by unfold strLe; rw [decide_eq_true_iff]; exact Iff.rfl
theorem strLe_trans (a b c : Str) (x : strLe a b = true) (y : strLe b c = true) : strLe a c = true := strLe_iff.mpr (List.le_trans (strLe_iff.mp x) (strLe_iff.mp y))
theorem strLe_total (a b : Str) : (strLe a b || strLe b a) = true := by
  rw [Bool.or_eq_true, strLe_iff, strLe_iff]; exact List.le_total _ _
theorem strLe_anti {a b : Str} (x : strLe a b = true) (y : strLe b a = true) : a = b := by
  have := List.le_antisymm (strLe_iff.mp x) (strLe_iff.mp y)
  cases a; cases b; simp only [Str.mk.injEq]; exact Array.toList_inj.mp this
theorem sortS_perm (l : List Str) : (sortS l).Perm l := List.mergeSort_perm l strLe
theorem sortS_sorted (l : List Str) : (sortS l).Pairwise fun a b => strLe a b = true := List.pairwise_mergeSort strLe_trans strLe_total l
theorem sortS_unique {l r : List Str} (p : r.Perm l) (h : r.Pairwise fun a b => strLe a b = true) : r = sortS l :=
  List.Perm.eq_of_pairwise (fun a b _ _ x y => strLe_anti x y) h (sortS_sorted l) (p.trans (sortS_perm l).symm)
theorem rising_pair : ∀ (l : List Str) (p : Str), risingS p l = true -> (p :: l).Pairwise fun a b => strLe a b = true
  | [], p, _ => List.pairwise_singleton _ _
  | x :: r, p, h => by
    have h' : (!PySem.Spec.ltCps x.cps.toList p.cps.toList && risingS x r) = true := h
    rw [Bool.and_eq_true] at h'
    have ih := rising_pair r x h'.2
    have px : strLe p x = true := by
      rw [strLe_iff]
      have := h'.1
      rw [ltCps_eq, Bool.not_eq_true', decide_eq_false_iff_not] at this
      exact this
    refine List.pairwise_cons.mpr ⟨fun y hy => ?_, ih⟩
    rcases List.mem_cons.mp hy with rfl | hy
    · exact px
    · exact strLe_trans _ _ _ px ((List.pairwise_cons.mp ih).1 y hy)
theorem sorted_pair (l : List Str) (h : sortedS l = true) : l.Pairwise fun a b => strLe a b = true := by
  cases l with
  | nil => exact List.Pairwise.nil
  | cons x r => exact rising_pair r x h
section
variable {B : Base} {k : Nat} {K : Kinds} {Γ Γ' : G} {V V' V₀ W : Addr -> Prop} {h h' : Heap} {env : Env} {A : Around} {s : Shared}
theorem strsAre_of : ∀ {l : List Str} {vs : List Value}, Lays B V h (sl l) vs -> StrsAre vs l
  | [], vs, x => by simp only [sl, List.map_nil, Lays] at x; subst x; exact .nil
  | y :: l, vs, x => by
    have x' : Lays B V h (.str y :: sl l) vs := x
    simp only [Lays] at x'
    (refine byEEA (x') fun v r hq1 hr2 => ?_; (try clear x'); subst hq1; refine byA (hr2) fun hp3 q => ?_; (try clear hr2); obtain ⟨t, rfl⟩ := hp3)
    exact .cons y t (strsAre_of q)
theorem lays_strsAre : ∀ {l : List Str} {vs : List Value}, StrsAre vs l -> Lays B V h (sl l) vs
  | _, _, .nil => by simp [sl, Lays]
  | _, _, .cons y t (ys := l) r => by
    show Lays B V h (.str y :: sl l) _
    simp only [Lays]
    exact ⟨_, _, rfl, ⟨t, rfl⟩, lays_strsAre r⟩
noncomputable def il (l : List Int) : List D := l.map .int
theorem intsAre_of : ∀ {l : List Int} {vs : List Value}, Lays B V h (il l) vs -> IntsAre vs l
  | [], vs, x => by simp only [il, List.map_nil, Lays] at x; subst x; exact .nil
  | y :: l, vs, x => by
    have x' : Lays B V h (.int y :: il l) vs := x
    simp only [Lays] at x'
    (refine byEEA (x') fun v r hq4 hr5 => ?_; (try clear x'); subst hq4; refine byA (hr5) fun hp6 q => ?_; (try clear hr5); obtain ⟨t, rfl⟩ := hp6)
    exact .cons y t (intsAre_of q)
theorem lays_intsAre : ∀ {l : List Int} {vs : List Value}, IntsAre vs l -> Lays B V h (il l) vs
  | _, _, .nil => by simp [il, Lays]
  | _, _, .cons y t (ns := l) r => by
    show Lays B V h (.int y :: il l) _
    simp only [Lays]
    exact ⟨_, _, rfl, ⟨t, rfl⟩, lays_intsAre r⟩
theorem made (O : B.Ok) (i : Inv B A s) {a : Addr} {ds : List D} {items : Array Value} {n tk : Nat} (k : ∀ b o, s.heap.get? b = some o → h'.get? b = some o) (na : s.heap.get? a = none) (ha : s.heap.objs.size ≤ a) (e : h'.get? a = some { cls := .type "list", data := .seq items n }) (l : ∀ V : Addr → Prop, Lays B V h' ds items.toList) :
    Inv B A { s with heap := h', toks := tk } /\ Kp s.heap h' /\ s.heap.get? a = none /\ B.n₀ <= a /\ Content B (fun b => V b \/ b = a) h' (.list ds) a :=
  ⟨i.keep O k, .of k, na, Nat.le_trans (O.size _ i.good) ha, items, ⟨n, e⟩, l _⟩
theorem BltF.sortedS (O : B.Ok) {l : List Str} (hz : l.length < 64) : BltF B k (.builtin "sorted") [.list (sl l)] (.list (sl (sortS l))) := fun A V s vs Q E rm i dm ls h => by
  (refine byEA (ls.one) fun v hq7 x => ?_; subst hq7)
  (refine byEEA (x.asList) fun a it hq8 hr9 => ?_; subst hq8; refine byA (hr9) fun p q => ?_; (try clear hr9))
  have hl : it.toList.length < 64 := by rw [q.length]; simpa [sl] using hz
  refine sorted_strs (prog := B.prog) (w := B.w) (vs := it.toList) (ss := l) (by simpa using p.isList) (strsAre_of q) hl fun out ss' e1 e2 e3 => ?_
  refine byE (sortedAll_at s.heap it.toList out) fun e he => ?_
  have es := sortS_unique e2 (sorted_pair ss' e3)
  subst es
  refine byAAAA (made (V := V) (ds := sl (sortS l)) O i (tk := s.toks) (fun b o => sortedAll_old) (none_size (Nat.le_succ _)) (Nat.le_succ _) he fun V => lays_strsAre e1) fun a1 a2 a3 a4 a5 => ?_
  exact h _ _ a1 a2 a3 a4 a5
noncomputable def vals (l : List (Str × Str)) : List (Str × D) := l.map fun p => (p.1, .str p.2)
theorem Meth.values : Meth "dict" "values" "dict.values" := ⟨PySem.F.plainAttrs_dict, PySem.F.slot_dict_values, PySem.F.type_dict_values⟩
theorem extend_view {kvs : List (Str × Value)} {ep : Nat} {r d n₀ : Addr} {R : Result -> Shared -> Prop} {prog : Program} {w : World} {A : Around} {s : Shared}
    (hh : A.handled = none) (v₁ : s.heap.IsValuesView r d) (d₁ : s.heap.DictAt (PySem.strKind prog w) d kvs ep) (hz : kvs.length ≤ sizeLine) (l₁ : s.heap.get? n₀ = some { cls := .type "list", data := .seq #[] }) (nr : n₀ ≠ r) (nd : n₀ ≠ d)
    (h : ∀ h' tk acc c, (∀ b o, b ≠ n₀ → s.heap.get? b = some o → h'.get? b = some o) → h'.get? n₀ = some { cls := .type "list", dict := none, data := .seq acc c, slots := #[] } → acc.toList = kvs.map (·.2) → R (.ok (.ret (.ref n₀))) { s with heap := h', toks := tk }) :
    wpAny (model prog w) A.in1 (Builtin.List.listExtendWith (.ref n₀) (.ref r) (.ref n₀))
      (fun fin s' => match fin with | .done f => R (.ok f) s' | .again c' => c'.quiet = true /\ codeAny (model prog w) A c' R s') (fun e s' => R (.error e) s') s := by
  have ln : n₀ < s.heap.objs.size := Heap.lt_size l₁
  have all : ∀ (acc : Array Value), ItemsOf (fun i v => ∃ k, kvs[i]? = some (k, v)) acc kvs.length -> acc.toList = kvs.map (·.2) := fun acc hacc => by
    apply List.ext_getElem?
    intro j
    rw [List.getElem?_map]
    by_cases hj : j < acc.size
    · refine byE (hacc.2 j acc[j] (Array.getElem?_eq_getElem hj)) fun key hx => ?_
      rw [hx]; simp [hj]
    · have : kvs.length <= j := by rw [<- hacc.1]; omega
      rw [List.getElem?_eq_none (by simp; omega), List.getElem?_eq_none this]; rfl
  have hsame : Builtin.List.listSameRef (.ref n₀) (.ref r) = false := by simp [Builtin.List.listSameRef, nr]
  unfold Builtin.List.listExtendWith
  refine wpAny_bind (wpAny_typeOf v₁.typeIs ?_)
  rw [if_neg (by rw [hsame]; decide)]
  refine wpAny_bind (wpAny_pyIter_values v₁ d₁ ?_)
  have W := (Walks.dictValues (prog := prog) (w := w) (knd := PySem.strKind prog w) (A := A.in1) hh s.heap.objs.size d (Nat.ne_of_lt d₁.lt_size) kvs ep).toS
  have tv : ∀ q : Obj, Shared.TypeIs { s with heap := s.heap.push q } (.ref r) "dict_values" := fun q => by
    (refine byEAA (v₁) fun o e c _ => ?_; (try clear v₁))
    exact ⟨o, Heap.get?_push_of_some _ e, c⟩
  have hsp : splitId "dict_values.__len__" = some ("dict_values", "__len__") := by decide +kernel
  refine wpAny_bind (wpAny_holding ?_)
  unfold Builtin.List.listLengthHint
  refine wpAny_bind (wpAny_specialOf (tv _) PySem.F.slot_dict_values_len.lookup ?_)
  revert hsp
  generalize e : ("dict_values.__len__" : String) = q
  intro hsp
  wp_delta
  rw [hsp]
  subst e
  refine wpAny_bind (wpAny_isInstance (T := "dict_values") (b := true) (tv _) (by rw [isSubtype_type]; kernel_rfl) ?_)
  rw [if_neg (show ¬ (!true) = true by decide)]
  refine wpAny_ite_split (fun _ => wpAny_bind (wpAny_typeOf (tv _) (wpAny_pure ?_))) (fun no => absurd (by decide +kernel) no)
  rw [if_pos (by decide)]
  have st₀ : (s.heap.push { cls := Value.type "dict_valueiterator", data := Data.fields #[Value.ref d, Value.int 0 0, Value.int (kvs.length : Nat) 0, Value.int (ep : Nat) 0] }).IsValIter s.heap.objs.size d 0 kvs.length ep := ⟨_, Heap.get?_push_size _ rfl, rfl, rfl⟩
  have d₂ := d₁.push { cls := Value.type "dict_valueiterator", data := Data.fields #[Value.ref d, Value.int 0 0, Value.int (kvs.length : Nat) 0, Value.int (ep : Nat) 0] }
  have l₂ := Heap.get?_push_of_some { cls := Value.type "dict_valueiterator", data := Data.fields #[Value.ref d, Value.int 0 0, Value.int (kvs.length : Nat) 0, Value.int (ep : Nat) 0] } l₁
  have k₂ : ∀ b o, s.heap.get? b = some o → (s.heap.push { cls := Value.type "dict_valueiterator", data := Data.fields #[Value.ref d, Value.int 0 0, Value.int (kvs.length : Nat) 0, Value.int (ep : Nat) 0] }).get? b = some o := fun b o e => Heap.get?_push_of_some _ e
  have nI : s.heap.objs.size ≠ n₀ := (Nat.ne_of_lt ln).symm
  have no : n₀ ∉ [s.heap.objs.size, d] := by simp [nd, nI.symm]
  show wpAny _ _ (rule "list.extend.makes-room" >>= fun _ => Builtin.List.listTouch (.ref n₀) >>= fun _ => again (.builtin "list.extend.loop" ⟨[.ref n₀, .ref s.heap.objs.size, .ref n₀], []⟩)) _ _ _
  revert st₀ d₂ l₂ k₂
  generalize s.heap.push { cls := Value.type "dict_valueiterator", data := Data.fields #[Value.ref d, Value.int 0 0, Value.int (kvs.length : Nat) 0, Value.int (ep : Nat) 0] } = h₂
  intro st₀ d₂ l₂ k₂
  refine wpAny_bind (wpAny_rule (wpAny_bind ?_))
  show wpAny _ _ (updateSeq n₀ (·.push .none) >>= fun _ => updateSeq n₀ (·.pop)) _ _ _
  refine wpAny_bind (wpAny_updateSeq l₂ rfl ?_)
  have l₃ := Heap.get?_update_self (Obj.mapSeq (·.push Value.none)) l₂ rfl
  refine wpAny_updateSeq (hz := by seq_fits) l₃ rfl ?_
  have far : ∀ b, b ≠ n₀ -> ∀ o, h₂.get? b = some o -> ((h₂.update n₀ (Obj.mapSeq (·.push Value.none))).update n₀ (Obj.mapSeq (·.pop))).get? b = some o := fun b hb o e =>
    (Heap.get?_update_other _ _ (Ne.symm hb)).trans ((Heap.get?_update_other _ _ (Ne.symm hb)).trans e)
  have l₄ := Heap.get?_update_self (Obj.mapSeq (·.pop)) l₃ rfl
  have st₄ := st₀.at fun o e => far _ nI _ e
  have d₄ := d₂.at' fun o e => far _ nd.symm _ e
  refine wpAny_pure ⟨plainId_quiet PySem.F.plain_extend_loop _, codeAny_extend_loopS W hz n₀ no (.ref n₀) kvs.length 0 _ #[] _ rfl (Nat.zero_le _) ⟨st₄, d₄⟩ l₄ (ItemsOf.nil _) fun s' acc c hm hS hacc => ?_⟩
  rw [Moved.eq_with hm]
  refine h _ _ _ _ (fun b o hb e => hm.heap b o (fun hmem => ?_) (far b hb _ (k₂ b o e))) hS (all acc hacc)
  have lb := Heap.lt_size e
  rcases List.mem_cons.mp hmem with q | hmem
  · exact hb q
  · rw [List.mem_singleton.mp hmem] at lb
    exact Nat.lt_irrefl _ lb
theorem collect_view {kvs : List (Str × Value)} {ep : Nat} {r d : Addr} {R : List Value -> Shared -> Prop} {E : Value -> Shared -> Prop} {prog : Program} {w : World} {A : Around} {s : Shared}
    (hh : A.handled = none) (hv : s.heap.IsValuesView r d) (hd : s.heap.DictAt (PySem.strKind prog w) d kvs ep) (hz : kvs.length <= sizeLine)
    (h : ∀ h' tk, (∀ b o, s.heap.get? b = some o -> h'.get? b = some o) -> R (kvs.map (·.2)) { s with heap := h', toks := tk }) : wpAny (model prog w) A (collect (.ref r)) R E s := by
  have lr : r < s.heap.objs.size := by (refine byEA (hv) fun _ e _ => ?_; (try clear hv)); exact Heap.lt_size e
  have v₁ : (s.heap.push { cls := .type "list", data := .seq ([] : List Value).toArray }).IsValuesView r d := by (refine byEA (hv) fun o e q => ?_; (try clear hv)); exact ⟨o, Heap.get?_push_of_some _ e, q⟩
  unfold collect
  refine wpAny_bind (wpAny_runValue (codeAny_builtin PySem.F.entry_proto_collect ?_))
  rw [Around.under_plainId PySem.F.plain_proto_collect _]
  show wpAny _ A.in1 (PySem.newList [] >>= fun l => again (.builtin "list.__iadd__" ⟨[l, .ref r], []⟩)) _ _ s
  refine wpAny_bind (wpAny_newObj_type (wpAny_pure ⟨plainId_quiet PySem.F.plain_list_iadd _, codeAny_builtin PySem.F.entry_list_iadd ?_⟩))
  rw [Around.under_plainId PySem.F.plain_list_iadd _]
  let G : Result -> Shared -> Prop := fun q s' => ∃ h' tk acc c, q = .ok (.ret (.ref s.heap.objs.size)) /\ s' = { s with heap := h', toks := tk } /\ (∀ b o, s.heap.get? b = some o -> h'.get? b = some o) /\
    h'.get? s.heap.objs.size = some { cls := .type "list", dict := none, data := .seq acc c, slots := #[] } ∧ acc.toList = kvs.map (·.2)
  have fin : ∀ q s', G q s' → (match (generalizing := false) q with | .ok (.ret v) => wpAny (model prog w) A (match v with | .ref a => do (match (← load a).data with | .seq xs _ => pure xs.toList | _ => unsupported "internal:collect") | _ => unsupported "internal:collect") R E s' | .ok _ => False | .error e => E e s') := fun q s' g => by
    (refine byEE (g) fun h' tk hr13 => ?_; (try clear g); refine byEEA (hr13) fun acc c hq14 hr15 => ?_; (try clear hr13); subst hq14; refine byA (hr15) fun hq16 hr17 => ?_; (try clear hr15); subst hq16; refine byAA (hr17) fun hk hS e => ?_; (try clear hr17))
    show wpAny _ A (load s.heap.objs.size >>= _) _ _ _
    refine wpAny_bind (wpAny_load hS (wpAny_pure ?_))
    show R acc.toList _
    rw [e]
    exact h _ _ hk
  have key := extend_view (s := { s with heap := s.heap.push { cls := .type "list", data := .seq ([] : List Value).toArray } }) (R := G) hh v₁ (hd.push _) hz (Heap.get?_push_size _ rfl) (Nat.ne_of_gt lr) (Nat.ne_of_gt hd.lt_size)
    fun h' tk acc c hk hS e => ⟨h', tk, acc, c, rfl, rfl, fun b o e => hk b o (Nat.ne_of_lt (Heap.lt_size e)) (Heap.get?_push_of_some _ e), hS, e⟩
  refine wpAny_mono key (fun f s' x => ?_) fun e s' x => ?_
  · cases f with
    | done f => exact fin _ _ x
    | again c => exact ⟨x.1, codeAny_mono x.2 fin⟩
  · (refine byEE (x) fun _ _ hr18 => ?_; (try clear x); refine byEEA (hr18) fun _ _ q _ => ?_; (try clear hr18))
    cases q
theorem sorted_valuesView (O : B.Ok) {l : List (Str × Str)} (hz : l.length < 64) {d : Addr} {Q : Value -> Shared -> Prop} {E : Value -> Shared -> Prop} (rm : Room (k + 1) A) (i : Inv B A s) (x : LayB B V s.heap (.dict (vals l)) (.ref d))
    (h : ∀ a s', Inv B A s' -> Kp s.heap s'.heap -> s.heap.get? a = none -> B.n₀ <= a -> Content B (fun b => V b \/ b = a) s'.heap (.list (sl (sortS (l.map (·.2))))) a -> Q (.ref a) s') :
    wpAny B.M A (call (.builtin "dict.values") [.ref d]) (fun v s₁ => wpAny B.M A (call (.builtin "sorted") [v]) Q E s₁) E s := by
  refine byEAAEA (x.asDict') fun d' e lo kvs hD ld => ?_
  cases e
  refine call_meetsIn PySem.F.slot_dict_values hD.typeIs PySem.F.entry_dict_values (PySem.F.args_dict_values_1 _) (meets_dict_values (PySem.strKind B.prog B.w) d (sysNe O lo)) ⟨⟨kvs, hD⟩, ?_⟩
  refine byE (hD.dictAt) fun ep hA => ?_
  have hlen : kvs.length < 64 := by rw [ld.length]; simpa [vals] using hz
  have lv : Lays B V s.heap (sl (l.map (·.2))) (kvs.map (·.2)) := by
    have := ld.vals
    simp only [vals, List.map_map] at this
    rw [sl, List.map_map]; exact this
  let s₁ : Shared := { s with heap := s.heap.push { cls := .type "dict_values", data := .fields #[.ref d] } }
  have kp₁ : ∀ b o, s.heap.get? b = some o -> s₁.heap.get? b = some o := fun b o e => Heap.get?_push_of_some _ e
  refine call_function_entry kind_sorted plain_sorted entry_sorted (args_sorted1 _) ?_
  unfold Builtin.«sorted»
  refine wpAny_bind (m := checkCount "sorted" 1 1 _) (wpAny_pure ?_)
  refine wpAny_bind (collect_view (A := A.in1) (s := s₁) (kvs := kvs) (ep := ep) (rm.handled (Nat.succ_pos _)) ⟨_, Heap.get?_push_size _ rfl, rfl, rfl⟩ (hA.push _) (Nat.le_trans (Nat.le_of_lt hlen) (by decide)) fun h' tk hk => ?_)
  refine wpAny_bind (wpAny_newList ?_ (by simp; exact Nat.le_trans (Nat.le_of_lt hlen) (by decide)))
  have kp₂ : ∀ b o, s.heap.get? b = some o → (h'.push { cls := .type "list", data := .seq (kvs.map (·.2)).toArray }).get? b = some o := fun b o e => Heap.get?_push_of_some _ (hk b o (kp₁ b o e))
  have hoL : (h'.push { cls := .type "list", data := .seq (kvs.map (·.2)).toArray }).get? h'.objs.size = some (seqObj "list" (kvs.map (·.2)).toArray 0) := Heap.get?_push_size _ rfl
  have hS := strsAre_of lv
  have na : s.heap.get? h'.objs.size = none := by
    cases q : s.heap.get? h'.objs.size with
    | none => rfl
    | some o => exact absurd (Heap.lt_size (hk _ _ (kp₁ _ _ q))) (Nat.lt_irrefl _)
  have hge : s.heap.objs.size <= h'.objs.size := Nat.le_of_not_lt fun q => by
    have := Heap.lt_size (hk s.heap.objs.size _ (Heap.get?_push_size _ rfl))
    exact absurd q (Nat.not_lt.mpr (Nat.le_of_lt this))
  refine wpAny_bind (wpAny_holding (wpAny_call_entry slot_list_sort ⟨_, hoL, rfl⟩ entry_list_sort (list_sort_treeK (s := { s₁ with heap := h'.push { cls := .type "list", data := .seq (kvs.map (·.2)).toArray }, toks := tk }) strKind_oneLt hoL hS.keysOf (fun v₁ v₂ rest e => keyKind_strs (by rw [← e]; exact hS)) (by simpa using hlen) fun st' a1 a2 => ⟨_, rfl, ?_⟩) (args_list_sort _)))
  refine byEAA (sorted_out_str hS a1 a2) fun ss' e1 e2 e3 => ?_
  have es := sortS_unique e2 (sorted_pair ss' e3)
  subst es
  refine byE (sortedHeap_at (out := (arrOf st').map (·.2)) hoL) fun e he => ?_
  refine byAAAA (made (V := V) (ds := sl (sortS (l.map (·.2)))) O i (tk := tk) (fun b o eb => by
    have hb := Heap.lt_size (hk _ _ (kp₁ _ _ eb))
    rw [sortedHeap_old (Nat.ne_of_lt hb) (by rw [size_push']; exact Nat.lt_succ_of_lt hb)]
    exact kp₂ b o eb) na hge he fun V => lays_strsAre e1) fun b1 b2 b3 b4 b5 => ?_
  exact wpAny_pure ⟨_, rfl, h _ _ b1 b2 b3 b4 b5⟩
end
section
variable {prog : Program} {w : World} {A : Around} {E : Value -> Shared -> Prop} {s : Shared} 
theorem sub_str_str : isSubtype (.type "str") (.type "str") = pure true := by rw [isSubtype_type]; kernel_rfl
theorem sub_tup_tup : isSubtype (.type "tuple") (.type "tuple") = pure true := by rw [isSubtype_type]; kernel_rfl
theorem entry_issub_nested : entryFor table "issubclass.nested" = some Builtin.«issubclass.nested» := entryFor_of_tree (by kernel_rfl)
theorem kind_issub_nested : builtinKind "issubclass.nested" = none := by decide +kernel
theorem plain_issub_nested : plainId "issubclass.nested" = true := by decide +kernel
theorem args_issub_nested (a b c : Value) : argsOk "issubclass.nested" ⟨[a, b, c], []⟩ := by unfold argsOk; kernel_rfl
theorem issub_nested {k : Value} {dep : Int} {tk : Tok} {Q : PySem.Fin -> Shared -> Prop} (hk : k = .int dep tk) 
    (hq : Q (.done (.ret (.bool true))) s) :
    wpAny (model prog w) A (Builtin.«issubclass.nested» ⟨[.type "str", .type "str", k], []⟩) Q E s := by
  subst hk
  have f1 := sub_str_str
  repeat (any_goals (first | assumption | (rw [f1]) | wp_step))
theorem issub_call {Q : Value → Shared → Prop} (hq : Q (.bool true) s) : wpAny (model prog w) A (call (.builtin "issubclass.nested") [.type "str", .type "str", rawInt 1]) Q E s :=
  call_function_entry kind_issub_nested plain_issub_nested entry_issub_nested (args_issub_nested _ _ _) (issub_nested rfl ⟨_, rfl, hq⟩)
theorem issub_tup {t : Addr} {n : Nat} {Q : PySem.Fin → Shared → Prop} (ho : s.heap.get? t = some { cls := .type "tuple", data := .seq #[.type "str", .type "bytes"] n })
    (hq : Q (.done (.ret (.bool true))) s) :
    wpAny (model prog w) A (Builtin.«issubclass.nested» ⟨[.type "str", .ref t, rawInt 0], []⟩) Q E s := by
  unfold Builtin.«issubclass.nested»
  have hT : s.TypeIs (.ref t) "tuple" := ⟨_, ho, rfl⟩
  refine wpAny_bind (wpAny_typeOf hT ?_)
  rw [if_neg (by decide)]
  refine wpAny_bind ?_
  unfold Builtin.Builtins.unionMembers
  refine wpAny_bind (wpAny_typeOf hT ?_)
  rw [if_neg (by decide)]
  refine wpAny_pure ?_
  refine wpAny_bind (wpAny_isInstance hT sub_tup_tup ?_)
  rw [if_pos rfl]
  rw [if_neg (by decide)]
  refine wpAny_bind (wpAny_seqItems ho rfl ?_)
  simp only [Option.getD_some, List.forIn_toArray]
  rw [List.forIn_cons]
  refine wpAny_bind (wpAny_bind (wpAny_bind (issub_call (wpAny_bind (wpAny_truthy_bool ?_)))))
  rw [if_pos rfl]
  exact wpAny_bind (wpAny_pure (wpAny_pure (wpAny_pure (wpAny_pure hq))))
theorem call_issub {t : Addr} {n : Nat} {Q : Value → Shared → Prop} (ho : s.heap.get? t = some { cls := .type "tuple", data := .seq #[.type "str", .type "bytes"] n }) (hq : Q (.bool true) s) :
    wpAny (model prog w) A (call (.builtin "issubclass") [.type "str", .ref t]) Q E s :=
  call_issubclass (S := fun A R s => s.heap.get? t = some { cls := .type "tuple", data := .seq #[.type "str", .type "bytes"] n } ∧ R (.ok (.ret (.bool true))) s) (fun _ _ _ _ _ hs => issubclass_outer (issub_tup hs.1 hs.2)) ⟨ho, hq⟩
end
section
variable {B : Base} {k : Nat} {K : Kinds} {Γ Γ' : G} {V V' V₀ W : Addr -> Prop} {h h' : Heap} {env : Env} {A : Around} {s : Shared}
theorem LayB.asTy {T : String} {v : Value} (x : LayB B V h (.ty T) v) : v = .type T := by
  rcases x with x | ⟨a, e, c⟩
  · exact x
  · exact c.elim
theorem Ev.tyName (O : B.Ok) {x : Str} {T : String} {p : Pos} (b : BltAt B x (.type T)) (hK : K x = some .globalImplicit) (hd : (x == ("__debug__" : Str)) = false := by decide) : Ev B k K Γ (.Name x p) (.ty T) := .mk fun A env V s Q E rm eo i g h =>
  glob_blt O b hK eo i (h _ s i (.refl _) rfl) hd
theorem BltR.typeStr {x : Str} : BltR B k (.type "type") [.str x] (.ty "str") := fun A V s vs Q E rm i dm ls h => by
  (refine byEA (ls.one) fun v hq1 a => ?_; subst hq1)
  (refine byE (a.asStr) fun t hq2 => ?_; subst hq2)
  exact call_type_of (typeIs_str s x t) (by decide) (h _ s i (.refl _) rfl)
theorem BltR.issub : BltR B k (.builtin "issubclass") [.ty "str", .tup [.ty "str", .ty "bytes"]] (.bool true) := fun A V s vs Q E rm i dm ls h => by
  (refine byEEA (ls.two) fun v w hq3 hr4 => ?_; subst hq3; refine byA (hr4) fun a b => ?_; (try clear hr4))
  obtain rfl := a.asTy
  (refine byEEA (b.asTup) fun t it hq5 hr6 => ?_; subst hq5; refine byA (hr6) fun hp7 q => ?_; (try clear hr6); obtain ⟨n, ho⟩ := hp7)
  simp only [Lays, Lay] at q
  (refine byEEAA (q) fun v1 r1 e1 hq8 hr9 => ?_; (try clear q); subst hq8; refine byEEA (hr9) fun v2 r2 hq10 hr11 => ?_; (try clear hr9); subst hq10; refine byA (hr11) fun hq12 hq13 => ?_; (try clear hr11); subst hq12; subst hq13)
  have e : it = #[.type "str", .type "bytes"] := by
    apply Array.toList_inj.mp; rw [e1]
  subst e
  exact call_issub ho (h _ s i (.refl _) rfl)
theorem BltR.isinstStr {x : Str} {T : String} {b : Bool} (hc : ∀ (prog : Program) (w : World) (A : Around) (E : Value → Shared → Prop) (s : Shared) (t : Tok) (Q : Value → Shared → Prop), (∀ tk, Q (.bool b) { s with toks := tk }) → wpAny (model prog w) A (call (.builtin "isinstance") [.str x t, .type T]) Q E s) :
    BltR B k (.builtin "isinstance") [.str x, .ty T] (.bool b) := fun A V s vs Q E rm i dm ls h => by
  (refine byEEA (ls.two) fun v w hq14 hr15 => ?_; subst hq14; refine byA (hr15) fun a c => ?_; (try clear hr15))
  (refine byE (a.asStr) fun t hq16 => ?_; subst hq16)
  obtain rfl := c.asTy
  exact hc _ _ _ _ _ _ _ fun tk => h _ _ (i.tok tk) (.refl _) rfl
theorem BltR.isBytes {x : Str} : BltR B k (.builtin "isinstance") [.str x, .ty "bytes"] (.bool false) := .isinstStr fun _ _ _ _ _ _ _ h => PySem.IsiPair.str_bytes (h _)
theorem BltR.lenStr {x : Str} (hz : x.length ≤ sizeLine) : BltR B k (.builtin "len") [.str x] (.int x.length) := fun A V s vs Q E rm i dm ls h => by
  (refine byEA (ls.one) fun v hq17 a => ?_; subst hq17)
  (refine byE (a.asStr) fun t hq18 => ?_; subst hq18)
  have big : sizeLine = 16777216 := rfl
  exact PyProof.Rows.len_str (by omega) (h _ _ (i.tok _) (.refl _) ⟨_, rfl⟩)
theorem BltR.lenList {l : List D} (hz : l.length ≤ sizeLine) : BltR B k (.builtin "len") [.list l] (.int l.length) := fun A V s vs Q E rm i dm ls h => by
  (refine byEA (ls.one) fun v hq19 x => ?_; subst hq19)
  (refine byEEA (x.asList) fun a it hq20 hr21 => ?_; subst hq20; refine byA (hr21) fun p q => ?_; (try clear hr21))
  have z1 : it.size = l.length := by rw [<- q.length]; simp
  have big : sizeLine = 16777216 := rfl
  exact call_len_list p.isList (by omega) (h _ _ (i.tok _) (.refl _) ⟨_, by rw [z1]⟩)
theorem BltR.divmod (O : B.Ok) {a b : Int} (hb : b ≠ 0) (hp : Builtin.divisionGoesByPylong a b = false) : BltR B k (.builtin "divmod") [.int a, .int b] (.tup [.int (a.fdiv b), .int (a.fmod b)]) := fun A V s vs Q E rm i dm ls h => by
  (refine byEEA (ls.two) fun v w hq22 hr23 => ?_; subst hq22; refine byA (hr23) fun x y => ?_; (try clear hr23))
  (refine byE (x.asInt) fun t hq24 => ?_; subst hq24)
  (refine byE (y.asInt) fun u hq25 => ?_; subst hq25)
  have kp : ∀ b' o, s.heap.get? b' = some o → (s.heap.push { cls := .type "tuple", data := .seq #[.int (a.fdiv b) s.toks, .int (a.fmod b) (s.toks + 1)] }).get? b' = some o := fun b o e => Heap.get?_push_of_some _ e
  refine divmod_int (prog := B.prog) (w := B.w) hb (h _ _ (i.keep O kp) (.of kp) ?_) (.inl hp)
  simp only [Lay]
  refine ⟨_, rfl, fun q => ?_, _, ⟨_, Heap.get?_push_size _ rfl⟩, ?_⟩
  · refine byEA (dm _ q) fun o e _ => ?_
    exact absurd (Heap.lt_size e) (Nat.lt_irrefl _)
  · simp only [Lays]
    exact ⟨_, _, rfl, ⟨_, rfl⟩, _, _, rfl, ⟨_, rfl⟩, rfl⟩
theorem EvF.sortedValues (O : B.Ok) {o : Expr} {p p' p'' ap : Pos} {l : List (Str × Str)} (bl : BltAt B "sorted" (.builtin "sorted")) (hK : K "sorted" = some .globalImplicit) (x : EvB B (k + 1) K Γ o (.dict (vals l))) (hz : l.length < 64)
    (hl : (ap.endLine == p'.line) = true := by rfl) (hb : ∀ env, attributeBase o "values" env (eval o env) = eval o env := by intro _; rfl) :
    EvF B (k + 1) K Γ (.Call (.Name "sorted" p) [.Call (.Attribute o "values" ap) [] [] p'] [] p'') (.list (sl (sortS (l.map (·.2))))) := .mk fun A env V s Q E rm eo i g h =>
  Call_ (glob_blt O bl hK eo i (callWith_blt (f := .builtin "sorted") (by rfl) (by rfl) (by
    rw [starEach_cons rfl, starEach_nil]
    refine Calls.spliced_cons (meth_core x .nil Meth.values .dict' hl hb rfl (by decide) rm eo i g fun vs s₁ i₁ k₁ l₁ => ?_)
    (refine byEA (l₁.one) fun v hq26 lv => ?_; subst hq26)
    (refine byEA (lv.asDict') fun d hq27 _ => ?_; subst hq27)
    refine wpAny_mono (sorted_valuesView O hz rm i₁ lv fun a s₂ i₂ k₂ n₂ lo c₂ => h a s₂ i₂ (k₁.trans k₂) (fresh_of k₁ n₂) lo c₂) (fun v s₂ h₂ => ?_) fun _ _ e => e
    exact Calls.spliced_nil h₂)) (by decide))
end
open AutoSeq1 (wpAny_loadPart')
open MeetsSeq MeetsSeq2 MeetsSeq3 SeqRoads2
noncomputable def ltS (x y : Str) : Bool := decide (x.cps.toList < y.cps.toList)
noncomputable def ltL : List Str -> List Str -> Bool
  | [], [] => false
  | [], _ :: _ => true
  | _ :: _, [] => false
  | x :: l, y :: r => if x = y then ltL l r else ltS x y
theorem sv_get (xs : List (Str × Tok)) (i : Nat) : (strValues xs).toArray[((i : Nat) : Int).toNat]? = (xs[i]?).map fun p => Value.str p.1 p.2 := by
  simp [strValues]
theorem dropM {xs : List (Str × Tok)} {i : Nat} (h : xs.length <= i) : (xs.map (·.1)).drop i = [] := List.drop_of_length_le (by rw [List.length_map]; exact h)
theorem lt_loop (a b : Addr) (n n2 : Nat) (xs ys : List (Str × Tok)) : ∀ (k : Nat) (i : Nat), xs.length - i = k -> Meets (Builtin.«list.__eq__.loop» ⟨[.ref a, .ref b, rawInt i, rawInt 0], []⟩)
      (fun A R s => s.heap.get? a = some { cls := .type "list", data := .seq (strValues xs).toArray n } ∧ s.heap.get? b = some { cls := .type "list", data := .seq (strValues ys).toArray n2 } ∧
        i <= xs.length /\ i <= ys.length /\ R (.ok (.ret (.bool (ltL ((xs.map (·.1)).drop i) ((ys.map (·.1)).drop i))))) s) := by
  have szx : (strValues xs).toArray.size = xs.length := by simp [strValues]
  have szy : (strValues ys).toArray.size = ys.length := by simp [strValues]
  intro k
  induction k with
  | zero =>
    intro i hk prog w A R s h
    obtain ⟨hp, g, d, tk, os⟩ := s; refine byAAAA (h) fun hl hb h1 h2 h => ?_
    wp_walk using wpAny_loadPart' hl, wpAny_loadPart' hb
    have hk : xs.length <= i := Nat.le_of_sub_eq_zero hk
    have hi1 : xs[i]? = none := List.getElem?_eq_none hk
    rw [sv_get, sv_get, hi1]
    have e1 : (xs.map (·.1)).drop i = [] := dropM hk
    rw [e1] at h
    wp_walk using wpAny_loadPart' hl, wpAny_loadPart' hb
    show R (.ok (.ret (.bool (decide ((strValues xs).toArray.size < (strValues ys).toArray.size))))) _
    rw [szx, szy]
    cases hy : (ys.map (·.1)).drop i with
    | nil =>
      have : ys.length <= i := by simpa using hy
      rw [hy] at h
      rw [decide_eq_false (Nat.not_lt.mpr (Nat.le_trans this h1))]
      exact h
    | cons y r =>
      have : i < ys.length := by
        exact Nat.not_le.mp fun q => by rw [dropM q] at hy; cases hy
      rw [hy] at h
      rw [decide_eq_true (Nat.lt_of_le_of_lt hk this)]
      exact h
  | succ k ih =>
    intro i hk prog w A R s h
    obtain ⟨hp, g, d, tk, os⟩ := s; refine byAAAA (h) fun hl hb h1 h2 h => ?_
    wp_walk using wpAny_loadPart' hl, wpAny_loadPart' hb
    have hlt : i < xs.length := Nat.lt_of_sub_eq_succ hk
    have hi1 : xs[i]? = some xs[i] := List.getElem?_eq_getElem hlt
    have e1 : (xs.map (·.1)).drop i = xs[i].1 :: (xs.map (·.1)).drop (i + 1) := by rw [List.drop_eq_getElem_cons (by simpa using hlt)]; simp
    rw [sv_get, sv_get, hi1]
    rw [e1] at h
    by_cases hlt2 : i < ys.length
    · have hi2 : ys[i]? = some ys[i] := List.getElem?_eq_getElem hlt2
      have e2 : (ys.map (·.1)).drop i = ys[i].1 :: (ys.map (·.1)).drop (i + 1) := by rw [List.drop_eq_getElem_cons (by simpa using hlt2)]; simp
      rw [hi2]
      rw [e2] at h
      have hc : ((i : Int) + 1) = ((i + 1 : Nat) : Int) := by push_cast; rfl
      refine wpAny_bind (PySem.SeqAt.EqAt.str_str _ _ _ _ prog w _ _ ?_)
      by_cases he : xs[i].1 = ys[i].1
      · rw [show (xs[i].1 == ys[i].1) = true by simpa using he]
        simp only [ltL, he, if_true] at h
        wp_walk
        rw [hc]
        exact ⟨plainId_quiet plain_eq_loop _, codeAny_builtin entry_eq_loop (by
          rw [Around.under_plainId plain_eq_loop _]
          exact ih (i + 1) (by rw [Nat.sub_succ, hk]; rfl) prog w A R _ ⟨hl, hb, hlt, hlt2, h⟩)⟩
      · rw [show (xs[i].1 == ys[i].1) = false by simpa using he]
        simp only [ltL, he, if_false] at h
        wp_walk using wpAny_loadPart' hl, wpAny_loadPart' hb
        rw [sv_get, sv_get, hi1, hi2]
        refine wpAny_bind (PyProof.Rows.lt_str ?_)
        exact wpAny_pure h
    · have hi2 : ys[i]? = none := List.getElem?_eq_none (Nat.not_lt.mp hlt2)
      have e2 : (ys.map (·.1)).drop i = [] := dropM (Nat.not_lt.mp hlt2)
      rw [hi2]
      rw [e2] at h
      wp_walk using wpAny_loadPart' hl, wpAny_loadPart' hb
      show R (.ok (.ret (.bool (decide ((strValues xs).toArray.size < (strValues ys).toArray.size))))) _
      rw [szx, szy, decide_eq_false (Nat.not_lt.mpr (Nat.le_trans (Nat.not_lt.mp hlt2) h1))]
      exact h
theorem gt_loop (a b : Addr) (n n2 : Nat) (xs ys : List (Str × Tok)) : ∀ (k : Nat) (i : Nat), xs.length - i = k -> Meets (Builtin.«list.__eq__.loop» ⟨[.ref a, .ref b, rawInt i, rawInt 4], []⟩)
      (fun A R s => s.heap.get? a = some { cls := .type "list", data := .seq (strValues xs).toArray n } ∧ s.heap.get? b = some { cls := .type "list", data := .seq (strValues ys).toArray n2 } ∧
        i <= xs.length /\ i <= ys.length /\ R (.ok (.ret (.bool (ltL ((ys.map (·.1)).drop i) ((xs.map (·.1)).drop i))))) s) := by
  have szx : (strValues xs).toArray.size = xs.length := by simp [strValues]
  have szy : (strValues ys).toArray.size = ys.length := by simp [strValues]
  intro k
  induction k with
  | zero =>
    intro i hk prog w A R s h
    obtain ⟨hp, g, d, tk, os⟩ := s; refine byAAAA (h) fun hl hb h1 h2 h => ?_
    wp_walk using wpAny_loadPart' hl, wpAny_loadPart' hb
    have hk : xs.length <= i := Nat.le_of_sub_eq_zero hk
    have hi1 : xs[i]? = none := List.getElem?_eq_none hk
    rw [sv_get, sv_get, hi1]
    have e1 : (xs.map (·.1)).drop i = [] := dropM hk
    rw [e1] at h
    wp_walk using wpAny_loadPart' hl, wpAny_loadPart' hb
    show R (.ok (.ret (.bool (decide ((strValues xs).toArray.size > (strValues ys).toArray.size))))) _
    rw [szx, szy]
    cases hy : (ys.map (·.1)).drop i with
    | nil =>
      have : ys.length <= i := by simpa using hy
      rw [hy] at h
      rw [decide_eq_false (Nat.not_lt.mpr (Nat.le_trans hk h2))]
      exact h
    | cons y r =>
      have : i < ys.length := by
        exact Nat.not_le.mp fun q => by rw [dropM q] at hy; cases hy
      rw [hy] at h
      rw [decide_eq_false (Nat.not_lt.mpr (Nat.le_trans hk h2))]
      exact h
  | succ k ih =>
    intro i hk prog w A R s h
    obtain ⟨hp, g, d, tk, os⟩ := s; refine byAAAA (h) fun hl hb h1 h2 h => ?_
    wp_walk using wpAny_loadPart' hl, wpAny_loadPart' hb
    have hlt : i < xs.length := Nat.lt_of_sub_eq_succ hk
    have hi1 : xs[i]? = some xs[i] := List.getElem?_eq_getElem hlt
    have e1 : (xs.map (·.1)).drop i = xs[i].1 :: (xs.map (·.1)).drop (i + 1) := by rw [List.drop_eq_getElem_cons (by simpa using hlt)]; simp
    rw [sv_get, sv_get, hi1]
    rw [e1] at h
    by_cases hlt2 : i < ys.length
    · have hi2 : ys[i]? = some ys[i] := List.getElem?_eq_getElem hlt2
      have e2 : (ys.map (·.1)).drop i = ys[i].1 :: (ys.map (·.1)).drop (i + 1) := by rw [List.drop_eq_getElem_cons (by simpa using hlt2)]; simp
      rw [hi2]
      rw [e2] at h
      have hc : ((i : Int) + 1) = ((i + 1 : Nat) : Int) := by push_cast; rfl
      refine wpAny_bind (PySem.SeqAt.EqAt.str_str _ _ _ _ prog w _ _ ?_)
      by_cases he : xs[i].1 = ys[i].1
      · rw [show (xs[i].1 == ys[i].1) = true by simpa using he]
        rw [ltL, if_pos he.symm] at h
        wp_walk
        rw [hc]
        exact ⟨plainId_quiet plain_eq_loop _, codeAny_builtin entry_eq_loop (by
          rw [Around.under_plainId plain_eq_loop _]
          exact ih (i + 1) (by rw [Nat.sub_succ, hk]; rfl) prog w A R _ ⟨hl, hb, hlt, hlt2, h⟩)⟩
      · rw [show (xs[i].1 == ys[i].1) = false by simpa using he]
        rw [ltL, if_neg (Ne.symm he)] at h
        wp_walk using wpAny_loadPart' hl, wpAny_loadPart' hb
        rw [sv_get, sv_get, hi1, hi2]
        refine wpAny_bind (PySem.P.gt_str ?_)
        exact wpAny_pure h
    · have hi2 : ys[i]? = none := List.getElem?_eq_none (Nat.not_lt.mp hlt2)
      have e2 : (ys.map (·.1)).drop i = [] := dropM (Nat.not_lt.mp hlt2)
      rw [hi2]
      rw [e2] at h
      wp_walk using wpAny_loadPart' hl, wpAny_loadPart' hb
      show R (.ok (.ret (.bool (decide ((strValues xs).toArray.size > (strValues ys).toArray.size))))) _
      rw [szx, szy, decide_eq_true (Nat.lt_of_le_of_lt (Nat.not_lt.mp hlt2) hlt)]
      exact h
section
variable {prog : Program} {w : World} {A : Around} {E : Value -> Shared -> Prop} {s : Shared}
theorem list_ltAt (a b : Addr) (n n2 : Nat) (xs ys : List (Str × Tok)) : Meets (Builtin.«list.__lt__» ⟨[.ref a, .ref b], []⟩)
      (fun A R s => s.heap.get? a = some { cls := .type "list", data := .seq (strValues xs).toArray n } ∧ s.heap.get? b = some { cls := .type "list", data := .seq (strValues ys).toArray n2 } ∧
        R (.ok (.ret (.bool (ltL (xs.map (·.1)) (ys.map (·.1)))))) s) := by
  intro prog w A R s h
  obtain ⟨hp, g, d, tk, os⟩ := s; refine byAA (h) fun hl hb h => ?_
  have f3 := AutoSeq1.sub_list_list
  wp_walk using wpAny_loadPart' hl, wpAny_loadPart' hb
  exact ⟨plainId_quiet plain_eq_loop _, codeAny_builtin entry_eq_loop (by
    rw [Around.under_plainId plain_eq_loop _]
    exact lt_loop a b n n2 xs ys _ 0 rfl prog w A R _ ⟨hl, hb, Nat.zero_le _, Nat.zero_le _, by simpa using h⟩)⟩
theorem list_gtAt (a b : Addr) (n n2 : Nat) (xs ys : List (Str × Tok)) : Meets (Builtin.«list.__gt__» ⟨[.ref a, .ref b], []⟩)
      (fun A R s => s.heap.get? a = some { cls := .type "list", data := .seq (strValues xs).toArray n } ∧ s.heap.get? b = some { cls := .type "list", data := .seq (strValues ys).toArray n2 } ∧
        R (.ok (.ret (.bool (ltL (ys.map (·.1)) (xs.map (·.1)))))) s) := by
  intro prog w A R s h
  obtain ⟨hp, g, d, tk, os⟩ := s; refine byAA (h) fun hl hb h => ?_
  have f3 := AutoSeq1.sub_list_list
  wp_walk using wpAny_loadPart' hl, wpAny_loadPart' hb
  exact ⟨plainId_quiet plain_eq_loop _, codeAny_builtin entry_eq_loop (by
    rw [Around.under_plainId plain_eq_loop _]
    exact gt_loop a b n n2 xs ys _ 0 rfl prog w A R _ ⟨hl, hb, Nat.zero_le _, Nat.zero_le _, by simpa using h⟩)⟩
noncomputable def bestI (bt : Nat -> Nat -> Bool) : Nat -> Nat
  | 0 => 0
  | n + 1 => if bt (n + 1) (bestI bt n) then n + 1 else bestI bt n
theorem bestI_le (bt : Nat -> Nat -> Bool) : ∀ n, bestI bt n <= n
  | 0 => Nat.le_refl _
  | n + 1 => by
    unfold bestI
    split
    · exact Nat.le_refl _
    · exact Nat.le_succ_of_le (bestI_le bt n)
noncomputable def Old (h h' : Heap) : Prop := ∀ b o, h.get? b = some o -> h'.get? b = some o
theorem min_loopL {H : Heap} {I S l : Addr} {items : Array Value} {R : Result -> Shared -> Prop} (hh : A.handled = none) (bt : Nat -> Nat -> Bool)
    (hcmp : ∀ s' i j (hi : i < items.size) (hj : j < items.size) (Q E : Value -> Shared -> Prop), Old H s'.heap -> Q (.bool (bt i j)) s' -> wpAny (model prog w) A.in1 (richCompare .Lt items[i] items[j]) Q E s')
    (hl : H.IsList l items) (hIH : H.get? I = none) (hSH : H.get? S = none) (hIS : I ≠ S) :
    ∀ (k j : Nat) (s : Shared) (hj : j < items.size), items.size - (j + 1) = k -> Old H s.heap -> s.heap.IsListIter I l (j + 1) ->
    (∃ c, s.heap.get? S = some { cls := .type "list", dict := none, data := .seq #[items[bestI bt j]'(Nat.lt_of_le_of_lt (bestI_le bt j) hj), items[bestI bt j]'(Nat.lt_of_le_of_lt (bestI_le bt j) hj)] c, slots := #[] }) →
    (∀ h' (hx : bestI bt (items.size - 1) < items.size), Old H h' → R (.ok (.ret items[bestI bt (items.size - 1)])) { s with heap := h' }) → codeAny (model prog w) A (.builtin "min.loop" ⟨[.ref I, .none, .ref S], []⟩) R s := by
  have hname : (toString "min" ++ toString ".loop" : String) = "min.loop" := by decide
  intro k
  induction k with
  | zero =>
    intro j s hj hk old hit ⟨c, hS⟩ hR
    have hin : j + 1 = items.size := Nat.le_antisymm hj (Nat.le_of_sub_eq_zero hk)
    refine codeAny_builtin F.entry_min_loop ?_
    rw [Around.under_plainId F.plain_min_loop _]
    show wpAny _ A.in1 (seqItems? (.ref S) >>= _) _ _ s
    refine wpAny_bind (wpAny_seqItems hS rfl ?_)
    show wpAny _ A.in1 (tryCatch (pyNext (.ref I)) _ >>= _) _ _ s
    have hl' : s.heap.IsList l items := let ⟨o, e, r⟩ := hl; ⟨o, old _ _ e, r⟩
    refine wpAny_bind (wpAny_tryCatch (wpAny_pyNext_list_end hh hit hl' (by simp [hin]) fun h' hs => ?_))
    have hS' : h'.get? S = _ := hs S _ (Ne.symm hIS) hS
    show wpAny _ A.in1 (updateSeq S (fun _ => #[]) >>= _) _ _ _
    refine wpAny_bind ?_
    refine wpAny_updateSeq hS' rfl (wpAny_bind (wpAny_letGo (wpAny_pure ?_)))
    have e : items.size - 1 = j := by rw [<- hin]; rfl
    have := hR (h'.update S (Obj.mapSeq fun _ => #[])) (by rw [e]; exact Nat.lt_of_le_of_lt (bestI_le bt j) hj) fun b o eb => (Heap.get?_update_other _ _ (fun q : S = b => by rw [<- q, hSH] at eb; cases eb)).trans (hs b o (fun q => by rw [q, hIH] at eb; cases eb) (old b o eb))
    simp only [e] at this
    exact this
  | succ k ih =>
    intro j s hj hk old hit ⟨c, hS⟩ hR
    have hlt : j + 1 < items.size := Nat.lt_of_sub_eq_succ hk
    refine codeAny_builtin F.entry_min_loop ?_
    rw [Around.under_plainId F.plain_min_loop _]
    show wpAny _ A.in1 (seqItems? (.ref S) >>= _) _ _ s
    refine wpAny_bind (wpAny_seqItems hS rfl ?_)
    show wpAny _ A.in1 (tryCatch (pyNext (.ref I)) _ >>= _) _ _ s
    have hl' : s.heap.IsList l items := let ⟨o, e, r⟩ := hl; ⟨o, old _ _ e, r⟩
    refine wpAny_bind (wpAny_tryCatch (wpAny_pyNext_list_item hit hl' (x := items[j + 1]) (by simp [hlt]) fun h' hit' hs => ?_))
    have hS' : h'.get? S = _ := (hs.2 S (Ne.symm hIS)).trans hS
    have old' : Old H h' := fun b o eb => (hs.2 b (fun q => by rw [q, hIH] at eb; cases eb)).trans (old b o eb)
    show wpAny _ A.in1 (tryCatch (holding [items[j + 1], items[j + 1]] (richCompare .Lt items[j + 1] (items[bestI bt j]'(Nat.lt_of_le_of_lt (bestI_le bt j) hj)) >>= _)) _ >>= _) _ _ _
    refine wpAny_bind (wpAny_tryCatch (wpAny_holding (wpAny_bind (hcmp _ (j + 1) (bestI bt j) hlt (Nat.lt_of_le_of_lt (bestI_le bt j) hj) _ _ old' ?_))))
    refine wpAny_bind (wpAny_holding (wpAny_truthy_bool ?_))
    refine wpAny_bind (wpAny_letGo (wpAny_pure ?_))
    cases hb : bt (j + 1) (bestI bt j) with
    | true =>
      simp only [if_true]
      refine wpAny_bind ?_
      refine wpAny_updateSeq hS' rfl (wpAny_bind (wpAny_letGo ?_))
      rw [hname]
      have eb : bestI bt (j + 1) = j + 1 := by unfold bestI; rw [if_pos hb]
      refine wpAny_pure ⟨plainId_quiet F.plain_min_loop _, ih (j + 1) _ hlt (by rw [Nat.sub_succ, hk]; rfl) (fun b o eb => (Heap.get?_update_other _ _ (fun q : S = b => by rw [<- q, hSH] at eb; cases eb)).trans (old' b o eb)) ?_ ?_ hR⟩
      · (refine byEA (hit') fun o e r => ?_; (try clear hit'))
        exact ⟨o, (Heap.get?_update_other _ _ (Ne.symm hIS)).trans e, r⟩
      · simp only [eb]
        exact ⟨_, Heap.get?_update_self _ hS' rfl⟩
    | false =>
      simp only [Bool.false_eq_true, if_false]
      refine wpAny_bind (wpAny_letGo ?_)
      rw [hname]
      have eb : bestI bt (j + 1) = bestI bt j := by show (if _ then _ else _) = _; rw [if_neg (by rw [hb]; simp)]
      refine wpAny_pure ⟨plainId_quiet F.plain_min_loop _, ih (j + 1) _ hlt (by rw [Nat.sub_succ, hk]; rfl) old' hit' ?_ hR⟩
      simp only [eb]
      exact ⟨c, hS'⟩
theorem call_minL {l : Addr} {items : Array Value} {Q : Value -> Shared -> Prop} (hh : A.handled = none) (bt : Nat -> Nat -> Bool) (h0 : 0 < items.size)
    (hcmp : ∀ s' i j (hi : i < items.size) (hj : j < items.size) (Q E : Value -> Shared -> Prop), Old s.heap s'.heap -> Q (.bool (bt i j)) s' -> wpAny (model prog w) A.in1 (richCompare .Lt items[i] items[j]) Q E s')
    (hl : s.heap.IsList l items) (hQ : ∀ h' (hx : bestI bt (items.size - 1) < items.size), Old s.heap h' -> Q items[bestI bt (items.size - 1)] { s with heap := h' }) :
    wpAny (model prog w) A (call (.builtin "min") [.ref l]) Q E s := by
  have hname : (toString "min" ++ toString ".loop" : String) = "min.loop" := by decide
  refine call_function_tree F.kind_min F.plain_min F.entry_min (F.args_min1 _) ?_
  show wpAny _ A.in1 (Builtin.Builtins.bindParams "min" ["key", "default"] 0 ⟨[], []⟩ >>= _) _ _ s
  refine wpAny_bind (wpAny_of_eq (show Builtin.Builtins.bindParams "min" ["key", "default"] 0 ⟨[], []⟩ = pure [none, none] from rfl) ?_)
  refine wpAny_bind (wpAny_pure ?_)
  refine wpAny_bind (wpAny_pyIter_list hl ?_)
  refine wpAny_bind (wpAny_newObj_type ?_)
  rw [hname]
  have hI : s.heap.get? s.heap.objs.size = none := none_size (Nat.le_refl _)
  have z1 : (s.heap.push { cls := .type "list_iterator", data := .fields #[.ref l, .int 0 0] }).objs.size = s.heap.objs.size + 1 := Heap.size_push ..
  have hSN : s.heap.get? (s.heap.push { cls := .type "list_iterator", data := .fields #[.ref l, .int 0 0] }).objs.size = none := by rw [z1]; exact none_size (Nat.le_succ _)
  have hIS : s.heap.objs.size ≠ (s.heap.push { cls := .type "list_iterator", data := .fields #[.ref l, .int 0 0] }).objs.size := by rw [z1]; exact Nat.ne_of_lt (Nat.lt_succ_self _)
  generalize hS₀ : (s.heap.push { cls := .type "list_iterator", data := .fields #[.ref l, .int 0 0] }).objs.size = S at hSN hIS
  have old₁ : Old s.heap (s.heap.push { cls := .type "list_iterator", data := .fields #[.ref l, .int 0 0] }) := fun b o e => Heap.get?_push_of_some _ e
  have hit₁ : (s.heap.push { cls := .type "list_iterator", data := .fields #[.ref l, .int 0 0] }).IsListIter s.heap.objs.size l 0 := ⟨_, Heap.get?_push_size _ rfl, rfl, rfl⟩
  generalize hH₁ : s.heap.push { cls := .type "list_iterator", data := .fields #[.ref l, .int 0 0] } = H₁ at *
  have hS : (H₁.push { cls := .type "list", data := .seq ([] : List Value).toArray }).get? S = some { cls := .type "list", dict := none, data := .seq #[] 0, slots := #[] } := by rw [← hS₀]; exact Heap.get?_push_size _ rfl
  have old₂ : Old s.heap (H₁.push { cls := .type "list", data := .seq ([] : List Value).toArray }) := fun b o e => Heap.get?_push_of_some _ (old₁ b o e)
  have hit₂ : (H₁.push { cls := .type "list", data := .seq ([] : List Value).toArray }).IsListIter s.heap.objs.size l 0 := let ⟨o, e, r⟩ := hit₁; ⟨o, Heap.get?_push_of_some _ e, r⟩
  generalize (H₁.push { cls := .type "list", data := .seq ([] : List Value).toArray }) = H₂ at *
  refine wpAny_pure ⟨plainId_quiet F.plain_min_loop _, codeAny_builtin F.entry_min_loop ?_⟩
  rw [Around.under_plainId F.plain_min_loop _]
  show wpAny _ A.in1 (seqItems? (.ref S) >>= _) _ _ { s with heap := H₂ }
  refine wpAny_bind (wpAny_seqItems (s := { s with heap := H₂ }) hS rfl ?_)
  show wpAny _ A.in1 (tryCatch (pyNext (.ref s.heap.objs.size)) _ >>= _) _ _ _
  have hl' : H₂.IsList l items := let ⟨o, e, r⟩ := hl; ⟨o, old₂ _ _ e, r⟩
  refine wpAny_bind (wpAny_tryCatch (wpAny_pyNext_list_item (s := { s with heap := H₂ }) hit₂ hl' (x := items[0]) (by simp [h0]) fun h' hit' hs => ?_))
  have hS' : h'.get? S = _ := (hs.2 S (Ne.symm hIS)).trans hS
  have old' : Old s.heap h' := fun b o eb => (hs.2 b (fun q => by rw [q, hI] at eb; cases eb)).trans (old₂ b o eb)
  show wpAny _ A.in1 (updateSeq S (fun _ => #[items[0], items[0]]) >>= _) _ _ _
  refine wpAny_bind ?_
  refine wpAny_updateSeq hS' rfl ?_
  rw [hname]
  refine wpAny_pure ⟨plainId_quiet F.plain_min_loop _, min_loopL (A := A) (H := s.heap) hh bt hcmp hl hI hSN hIS _ 0 _ h0 rfl (fun b o eb => (Heap.get?_update_other _ _ (fun q : S = b => by rw [<- q, hSN] at eb; cases eb)).trans (old' b o eb)) ?_ ⟨_, Heap.get?_update_self _ hS' rfl⟩ fun h'' hx o => hQ h'' hx o⟩
  (refine byEA (hit') fun o e r => ?_; (try clear hit'))
  exact ⟨o, (Heap.get?_update_other _ _ (Ne.symm hIS)).trans e, r⟩
theorem max_loopL {H : Heap} {I S l : Addr} {items : Array Value} {R : Result -> Shared -> Prop} (hh : A.handled = none) (bt : Nat -> Nat -> Bool)
    (hcmp : ∀ s' i j (hi : i < items.size) (hj : j < items.size) (Q E : Value -> Shared -> Prop), Old H s'.heap -> Q (.bool (bt i j)) s' -> wpAny (model prog w) A.in1 (richCompare .Gt items[i] items[j]) Q E s')
    (hl : H.IsList l items) (hIH : H.get? I = none) (hSH : H.get? S = none) (hIS : I ≠ S) :
    ∀ (k j : Nat) (s : Shared) (hj : j < items.size), items.size - (j + 1) = k -> Old H s.heap -> s.heap.IsListIter I l (j + 1) ->
    (∃ c, s.heap.get? S = some { cls := .type "list", dict := none, data := .seq #[items[bestI bt j]'(Nat.lt_of_le_of_lt (bestI_le bt j) hj), items[bestI bt j]'(Nat.lt_of_le_of_lt (bestI_le bt j) hj)] c, slots := #[] }) →
    (∀ h' (hx : bestI bt (items.size - 1) < items.size), Old H h' → R (.ok (.ret items[bestI bt (items.size - 1)])) { s with heap := h' }) → codeAny (model prog w) A (.builtin "max.loop" ⟨[.ref I, .none, .ref S], []⟩) R s := by
  have hname : (toString "max" ++ toString ".loop" : String) = "max.loop" := by decide
  intro k
  induction k with
  | zero =>
    intro j s hj hk old hit ⟨c, hS⟩ hR
    have hin : j + 1 = items.size := Nat.le_antisymm hj (Nat.le_of_sub_eq_zero hk)
    refine codeAny_builtin F.entry_max_loop ?_
    rw [Around.under_plainId F.plain_max_loop _]
    show wpAny _ A.in1 (seqItems? (.ref S) >>= _) _ _ s
    refine wpAny_bind (wpAny_seqItems hS rfl ?_)
    show wpAny _ A.in1 (tryCatch (pyNext (.ref I)) _ >>= _) _ _ s
    have hl' : s.heap.IsList l items := let ⟨o, e, r⟩ := hl; ⟨o, old _ _ e, r⟩
    refine wpAny_bind (wpAny_tryCatch (wpAny_pyNext_list_end hh hit hl' (by simp [hin]) fun h' hs => ?_))
    have hS' : h'.get? S = _ := hs S _ (Ne.symm hIS) hS
    show wpAny _ A.in1 (updateSeq S (fun _ => #[]) >>= _) _ _ _
    refine wpAny_bind ?_
    refine wpAny_updateSeq hS' rfl (wpAny_bind (wpAny_letGo (wpAny_pure ?_)))
    have e : items.size - 1 = j := by rw [<- hin]; rfl
    have := hR (h'.update S (Obj.mapSeq fun _ => #[])) (by rw [e]; exact Nat.lt_of_le_of_lt (bestI_le bt j) hj) fun b o eb => (Heap.get?_update_other _ _ (fun q : S = b => by rw [<- q, hSH] at eb; cases eb)).trans (hs b o (fun q => by rw [q, hIH] at eb; cases eb) (old b o eb))
    simp only [e] at this
    exact this
  | succ k ih =>
    intro j s hj hk old hit ⟨c, hS⟩ hR
    have hlt : j + 1 < items.size := Nat.lt_of_sub_eq_succ hk
    refine codeAny_builtin F.entry_max_loop ?_
    rw [Around.under_plainId F.plain_max_loop _]
    show wpAny _ A.in1 (seqItems? (.ref S) >>= _) _ _ s
    refine wpAny_bind (wpAny_seqItems hS rfl ?_)
    show wpAny _ A.in1 (tryCatch (pyNext (.ref I)) _ >>= _) _ _ s
    have hl' : s.heap.IsList l items := let ⟨o, e, r⟩ := hl; ⟨o, old _ _ e, r⟩
    refine wpAny_bind (wpAny_tryCatch (wpAny_pyNext_list_item hit hl' (x := items[j + 1]) (by simp [hlt]) fun h' hit' hs => ?_))
    have hS' : h'.get? S = _ := (hs.2 S (Ne.symm hIS)).trans hS
    have old' : Old H h' := fun b o eb => (hs.2 b (fun q => by rw [q, hIH] at eb; cases eb)).trans (old b o eb)
    show wpAny _ A.in1 (tryCatch (holding [items[j + 1], items[j + 1]] (richCompare .Gt items[j + 1] (items[bestI bt j]'(Nat.lt_of_le_of_lt (bestI_le bt j) hj)) >>= _)) _ >>= _) _ _ _
    refine wpAny_bind (wpAny_tryCatch (wpAny_holding (wpAny_bind (hcmp _ (j + 1) (bestI bt j) hlt (Nat.lt_of_le_of_lt (bestI_le bt j) hj) _ _ old' ?_))))
    refine wpAny_bind (wpAny_holding (wpAny_truthy_bool ?_))
    refine wpAny_bind (wpAny_letGo (wpAny_pure ?_))
    cases hb : bt (j + 1) (bestI bt j) with
    | true =>
      simp only [if_true]
      refine wpAny_bind ?_
      refine wpAny_updateSeq hS' rfl (wpAny_bind (wpAny_letGo ?_))
      rw [hname]
      have eb : bestI bt (j + 1) = j + 1 := by unfold bestI; rw [if_pos hb]
      refine wpAny_pure ⟨plainId_quiet F.plain_max_loop _, ih (j + 1) _ hlt (by rw [Nat.sub_succ, hk]; rfl) (fun b o eb => (Heap.get?_update_other _ _ (fun q : S = b => by rw [<- q, hSH] at eb; cases eb)).trans (old' b o eb)) ?_ ?_ hR⟩
      · (refine byEA (hit') fun o e r => ?_; (try clear hit'))
        exact ⟨o, (Heap.get?_update_other _ _ (Ne.symm hIS)).trans e, r⟩
      · simp only [eb]
        exact ⟨_, Heap.get?_update_self _ hS' rfl⟩
    | false =>
      simp only [Bool.false_eq_true, if_false]
      refine wpAny_bind (wpAny_letGo ?_)
      rw [hname]
      have eb : bestI bt (j + 1) = bestI bt j := by show (if _ then _ else _) = _; rw [if_neg (by rw [hb]; simp)]
      refine wpAny_pure ⟨plainId_quiet F.plain_max_loop _, ih (j + 1) _ hlt (by rw [Nat.sub_succ, hk]; rfl) old' hit' ?_ hR⟩
      simp only [eb]
      exact ⟨c, hS'⟩
theorem call_maxL {l : Addr} {items : Array Value} {Q : Value -> Shared -> Prop} (hh : A.handled = none) (bt : Nat -> Nat -> Bool) (h0 : 0 < items.size)
    (hcmp : ∀ s' i j (hi : i < items.size) (hj : j < items.size) (Q E : Value -> Shared -> Prop), Old s.heap s'.heap -> Q (.bool (bt i j)) s' -> wpAny (model prog w) A.in1 (richCompare .Gt items[i] items[j]) Q E s')
    (hl : s.heap.IsList l items) (hQ : ∀ h' (hx : bestI bt (items.size - 1) < items.size), Old s.heap h' -> Q items[bestI bt (items.size - 1)] { s with heap := h' }) :
    wpAny (model prog w) A (call (.builtin "max") [.ref l]) Q E s := by
  have hname : (toString "max" ++ toString ".loop" : String) = "max.loop" := by decide
  refine call_function_tree F.kind_max F.plain_max F.entry_max (F.args_max1 _) ?_
  show wpAny _ A.in1 (Builtin.Builtins.bindParams "max" ["key", "default"] 0 ⟨[], []⟩ >>= _) _ _ s
  refine wpAny_bind (wpAny_of_eq (show Builtin.Builtins.bindParams "max" ["key", "default"] 0 ⟨[], []⟩ = pure [none, none] from rfl) ?_)
  refine wpAny_bind (wpAny_pure ?_)
  refine wpAny_bind (wpAny_pyIter_list hl ?_)
  refine wpAny_bind (wpAny_newObj_type ?_)
  rw [hname]
  have hI : s.heap.get? s.heap.objs.size = none := none_size (Nat.le_refl _)
  have z1 : (s.heap.push { cls := .type "list_iterator", data := .fields #[.ref l, .int 0 0] }).objs.size = s.heap.objs.size + 1 := Heap.size_push ..
  have hSN : s.heap.get? (s.heap.push { cls := .type "list_iterator", data := .fields #[.ref l, .int 0 0] }).objs.size = none := by rw [z1]; exact none_size (Nat.le_succ _)
  have hIS : s.heap.objs.size ≠ (s.heap.push { cls := .type "list_iterator", data := .fields #[.ref l, .int 0 0] }).objs.size := by rw [z1]; exact Nat.ne_of_lt (Nat.lt_succ_self _)
  generalize hS₀ : (s.heap.push { cls := .type "list_iterator", data := .fields #[.ref l, .int 0 0] }).objs.size = S at hSN hIS
  have old₁ : Old s.heap (s.heap.push { cls := .type "list_iterator", data := .fields #[.ref l, .int 0 0] }) := fun b o e => Heap.get?_push_of_some _ e
  have hit₁ : (s.heap.push { cls := .type "list_iterator", data := .fields #[.ref l, .int 0 0] }).IsListIter s.heap.objs.size l 0 := ⟨_, Heap.get?_push_size _ rfl, rfl, rfl⟩
  generalize hH₁ : s.heap.push { cls := .type "list_iterator", data := .fields #[.ref l, .int 0 0] } = H₁ at *
  have hS : (H₁.push { cls := .type "list", data := .seq ([] : List Value).toArray }).get? S = some { cls := .type "list", dict := none, data := .seq #[] 0, slots := #[] } := by rw [← hS₀]; exact Heap.get?_push_size _ rfl
  have old₂ : Old s.heap (H₁.push { cls := .type "list", data := .seq ([] : List Value).toArray }) := fun b o e => Heap.get?_push_of_some _ (old₁ b o e)
  have hit₂ : (H₁.push { cls := .type "list", data := .seq ([] : List Value).toArray }).IsListIter s.heap.objs.size l 0 := let ⟨o, e, r⟩ := hit₁; ⟨o, Heap.get?_push_of_some _ e, r⟩
  generalize (H₁.push { cls := .type "list", data := .seq ([] : List Value).toArray }) = H₂ at *
  refine wpAny_pure ⟨plainId_quiet F.plain_max_loop _, codeAny_builtin F.entry_max_loop ?_⟩
  rw [Around.under_plainId F.plain_max_loop _]
  show wpAny _ A.in1 (seqItems? (.ref S) >>= _) _ _ { s with heap := H₂ }
  refine wpAny_bind (wpAny_seqItems (s := { s with heap := H₂ }) hS rfl ?_)
  show wpAny _ A.in1 (tryCatch (pyNext (.ref s.heap.objs.size)) _ >>= _) _ _ _
  have hl' : H₂.IsList l items := let ⟨o, e, r⟩ := hl; ⟨o, old₂ _ _ e, r⟩
  refine wpAny_bind (wpAny_tryCatch (wpAny_pyNext_list_item (s := { s with heap := H₂ }) hit₂ hl' (x := items[0]) (by simp [h0]) fun h' hit' hs => ?_))
  have hS' : h'.get? S = _ := (hs.2 S (Ne.symm hIS)).trans hS
  have old' : Old s.heap h' := fun b o eb => (hs.2 b (fun q => by rw [q, hI] at eb; cases eb)).trans (old₂ b o eb)
  show wpAny _ A.in1 (updateSeq S (fun _ => #[items[0], items[0]]) >>= _) _ _ _
  refine wpAny_bind ?_
  refine wpAny_updateSeq hS' rfl ?_
  rw [hname]
  refine wpAny_pure ⟨plainId_quiet F.plain_max_loop _, max_loopL (A := A) (H := s.heap) hh bt hcmp hl hI hSN hIS _ 0 _ h0 rfl (fun b o eb => (Heap.get?_update_other _ _ (fun q : S = b => by rw [<- q, hSN] at eb; cases eb)).trans (old' b o eb)) ?_ ⟨_, Heap.get?_update_self _ hS' rfl⟩ fun h'' hx o => hQ h'' hx o⟩
  (refine byEA (hit') fun o e r => ?_; (try clear hit'))
  exact ⟨o, (Heap.get?_update_other _ _ (Ne.symm hIS)).trans e, r⟩
end
noncomputable def lsl (l : List (List Str)) : List D := l.map fun x => .list (sl x)
noncomputable def minL (l : List (List Str)) : List Str := l.getD (bestI (fun i j => ltL (l.getD i []) (l.getD j [])) (l.length - 1)) []
noncomputable def maxL (l : List (List Str)) : List Str := l.getD (bestI (fun i j => ltL (l.getD j []) (l.getD i [])) (l.length - 1)) []
section
variable {B : Base} {k : Nat} {K : Kinds} {Γ Γ' : G} {V V' V₀ W : Addr -> Prop} {h h' : Heap} {env : Env} {A : Around} {s : Shared}
theorem PlainList.strs {a : Addr} {it : Array Value} {l : List Str} (p : h.PlainList a it) (q : Lays B V h (sl l) it.toList) : ∃ (z : List (Str × Tok)) (n : Nat), z.map (·.1) = l ∧ h.get? a = some { cls := .type "list", data := .seq (strValues z).toArray n } := by
  (refine byE (p) fun n e => ?_; (try clear p))
  refine byEA (q.toStrs) fun z e1 e2 => ?_
  exact ⟨z, n, e1, by rw [e, <- e2]⟩
theorem lsl_get {l : List (List Str)} {vs : List Value} (x : Lays B V h (lsl l) vs) {i : Nat} (hi : i < l.length) : ∃ v, vs[i]? = some v /\ Lay B V h (.list (sl (l.getD i []))) v :=
  x.get (by simp [lsl, hi])
theorem lsl_cmp {l : List (List Str)} {items : Array Value} (rm : A.units + 10 < 9900) (x : Lays B V h (lsl l) items.toList) {s' : Shared} (old : Old h s'.heap) {i j : Nat} (hi : i < items.size) (hj : j < items.size) :
    ∃ (a b : Addr) (xs ys : List (Str × Tok)) (n m : Nat), items[i] = .ref a /\ items[j] = .ref b /\ xs.map (·.1) = l.getD i [] /\ ys.map (·.1) = l.getD j [] /\
      s'.heap.get? a = some { cls := .type "list", data := .seq (strValues xs).toArray n } ∧ s'.heap.get? b = some { cls := .type "list", data := .seq (strValues ys).toArray m } := by
  have hz : items.size = l.length := by have := x.length; simpa [lsl] using this
  refine byEA (lsl_get x (i := i) (by omega)) fun v ev lv => ?_
  refine byEA (lsl_get x (i := j) (by omega)) fun w ew lw => ?_
  simp only [Lay] at lv lw
  (refine byEA (lv) fun a hq1 hr2 => ?_; (try clear lv); subst hq1; refine byA (hr2) fun _ hr3 => ?_; (try clear hr2); refine byEA (hr3) fun it p q => ?_; (try clear hr3))
  (refine byEA (lw) fun b hq4 hr5 => ?_; (try clear lw); subst hq4; refine byA (hr5) fun _ hr6 => ?_; (try clear hr5); refine byEA (hr6) fun it' p' q' => ?_; (try clear hr6))
  refine byEEA (PlainList.strs p q) fun xs n e1 e2 => ?_
  refine byEEA (PlainList.strs p' q') fun ys m e3 e4 => ?_
  refine ⟨a, b, xs, ys, n, m, ?_, ?_, e1, e3, old _ _ e2, old _ _ e4⟩
  · have : items.toList[i]? = some items[i] := by simp [hi]
    rw [this] at ev; exact Option.some.inj ev
  · have : items.toList[j]? = some items[j] := by simp [hj]
    rw [this] at ew; exact Option.some.inj ew
theorem BltR.minL (O : B.Ok) {l : List (List Str)} (h0 : l ≠ []) : BltR B (k + 1) (.builtin "min") [.list (lsl l)] (.list (sl (Jv.minL l))) := fun A V s vs Q E rm i dm ls h => by
  (refine byEA (ls.one) fun v hq7 x => ?_; subst hq7)
  (refine byEEA (x.asList) fun a it hq8 hr9 => ?_; subst hq8; refine byA (hr9) fun p q => ?_; (try clear hr9))
  have hz : it.size = l.length := by have := q.length; simpa [lsl] using this
  have hu := rm.units
  have h0' : 0 < l.length := List.length_pos_iff.mpr h0
  refine call_minL (prog := B.prog) (w := B.w) (rm.handled (Nat.succ_pos _)) (fun i j => ltL (l.getD i []) (l.getD j [])) (by omega) (fun s' i j hi hj Q E old hq => ?_) p.isList fun h' hx old => ?_
  · (refine byEE (lsl_cmp (A := A) (by omega) q old hi hj) fun a b hr10 => ?_; refine byEE (hr10) fun xs ys hr11 => ?_; (try clear hr10); refine byEEAAA (hr11) fun n m e1 e2 e3 hr12 => ?_; (try clear hr11); refine byAA (hr12) fun e4 e5 e6 => ?_; (try clear hr12))
    rw [e1, e2]
    exact richCompare_meets_room (op := .Lt) ⟨_, e5, rfl⟩ ⟨_, e6, rfl⟩ PySem.F.slot_list_lt PySem.F.entry_list_lt (PySem.F.args_list_lt_2 _ _) (list_ltAt a b n m xs ys) ⟨e5, e6, show Value.bool _ ≠ Value.notImplemented /\ Q (.bool _) s' from ⟨(fun x => nomatch x), by rw [e3, e4]; exact hq⟩⟩ (show A.units + 1 < 9900 by omega)
  · have hx' : bestI (fun i j => ltL (l.getD i []) (l.getD j [])) (it.size - 1) < l.length := by omega
    refine byEA (lsl_get q hx') fun v ev lv => ?_
    have : it.toList[bestI (fun i j => ltL (l.getD i []) (l.getD j [])) (it.size - 1)]? = some (it[bestI (fun i j => ltL (l.getD i []) (l.getD j [])) (it.size - 1)]'hx) := by simp
    rw [this] at ev
    have e := Option.some.inj ev
    rw [e]
    refine h _ _ (i.keep O (tk := s.toks) old) (.of old) ?_
    have ml : Jv.minL l = l.getD (bestI (fun i j => ltL (l.getD i []) (l.getD j [])) (it.size - 1)) [] := by unfold Jv.minL; rw [hz]
    rw [ml]
    exact lv.kp (.of old)
theorem BltR.maxL (O : B.Ok) {l : List (List Str)} (h0 : l ≠ []) : BltR B (k + 1) (.builtin "max") [.list (lsl l)] (.list (sl (Jv.maxL l))) := fun A V s vs Q E rm i dm ls h => by
  (refine byEA (ls.one) fun v hq13 x => ?_; subst hq13)
  (refine byEEA (x.asList) fun a it hq14 hr15 => ?_; subst hq14; refine byA (hr15) fun p q => ?_; (try clear hr15))
  have hz : it.size = l.length := by have := q.length; simpa [lsl] using this
  have hu := rm.units
  have h0' : 0 < l.length := List.length_pos_iff.mpr h0
  refine call_maxL (prog := B.prog) (w := B.w) (rm.handled (Nat.succ_pos _)) (fun i j => ltL (l.getD j []) (l.getD i [])) (by omega) (fun s' i j hi hj Q E old hq => ?_) p.isList fun h' hx old => ?_
  · (refine byEE (lsl_cmp (A := A) (by omega) q old hi hj) fun a b hr16 => ?_; refine byEE (hr16) fun xs ys hr17 => ?_; (try clear hr16); refine byEEAAA (hr17) fun n m e1 e2 e3 hr18 => ?_; (try clear hr17); refine byAA (hr18) fun e4 e5 e6 => ?_; (try clear hr18))
    rw [e1, e2]
    exact richCompare_meets_room (op := .Gt) ⟨_, e5, rfl⟩ ⟨_, e6, rfl⟩ PySem.F.slot_list_gt PySem.F.entry_list_gt (PySem.F.args_list_gt_2 _ _) (list_gtAt a b n m xs ys) ⟨e5, e6, show Value.bool _ ≠ Value.notImplemented /\ Q (.bool _) s' from ⟨(fun x => nomatch x), by rw [e3, e4]; exact hq⟩⟩ (show A.units + 1 < 9900 by omega)
  · have hx' : bestI (fun i j => ltL (l.getD j []) (l.getD i [])) (it.size - 1) < l.length := by omega
    refine byEA (lsl_get q hx') fun v ev lv => ?_
    have : it.toList[bestI (fun i j => ltL (l.getD j []) (l.getD i [])) (it.size - 1)]? = some (it[bestI (fun i j => ltL (l.getD j []) (l.getD i [])) (it.size - 1)]'hx) := by simp
    rw [this] at ev
    have e := Option.some.inj ev
    rw [e]
    refine h _ _ (i.keep O (tk := s.toks) old) (.of old) ?_
    have ml : Jv.maxL l = l.getD (bestI (fun i j => ltL (l.getD j []) (l.getD i [])) (it.size - 1)) [] := by unfold Jv.maxL; rw [hz]
    rw [ml]
    exact lv.kp (.of old)
end
open AutoSeq1 (wpAny_loadPart')
theorem slot_map_next : PySem.Slot "map" "__next__" "map.__next__" :=
  .of (owner := "map") (n := "__next__") (by rw [typeLookup_type, builtinLookup_eq_fast]; kernel_rfl) (by decide +kernel) (by decide +kernel) (by decide +kernel)
    (by first | exact .inl (by decide +kernel) | exact .inr (by decide +kernel)) (by rw [isSubtype_type]; kernel_rfl)
theorem slot_map_iter : PySem.Slot "map" "__iter__" "map.__iter__" :=
  .of (owner := "map") (n := "__iter__") (by rw [typeLookup_type, builtinLookup_eq_fast]; kernel_rfl) (by decide +kernel) (by decide +kernel) (by decide +kernel)
    (by first | exact .inl (by decide +kernel) | exact .inr (by decide +kernel)) (by rw [isSubtype_type]; kernel_rfl)
theorem entry_map_iter : entryFor table "map.__iter__" = some Builtin.«dict_keyiterator.__iter__» :=
  entryFor_alias (id' := "dict_keyiterator.__iter__") (by kernel_rfl) (by first | rfl | decide +kernel | (unfold String.splitOn; simp +decide [String.splitOnAux])) (by decide +kernel) (by kernel_rfl)
theorem args_map_iter_1 (a : Value) : argsOk "map.__iter__" ⟨[a], []⟩ := by unfold argsOk; kernel_rfl
theorem mro_map : mroOf (.type "map") = pure [.type "map", .type "object"] := by rw [mroOf_type]; kernel_rfl
theorem lookup_map_new : typeLookup (.type "map") "__new__" = pure (some (.builtin "map.__new__")) := by rw [typeLookup_type, builtinLookup_eq_fast]; kernel_rfl
theorem map_no_len : typeLookup (.type "map") "__len__" = pure none := by rw [typeLookup_type, builtinLookup_eq_fast]; kernel_rfl
theorem map_no_hint : typeLookup (.type "map") "__length_hint__" = pure none := by rw [typeLookup_type, builtinLookup_eq_fast]; kernel_rfl
theorem slot_map_init : PySem.Slot "map" "__init__" "object.__init__" :=
  .of (owner := "object") (n := "__init__") (by rw [typeLookup_type, builtinLookup_eq_fast]; kernel_rfl) (by decide +kernel) (by decide +kernel) (by decide +kernel)
    (by first | exact .inl (by decide +kernel) | exact .inr (by decide +kernel)) (by rw [isSubtype_type]; kernel_rfl)
theorem called_map : TypeCalled "map" "map.__new__" "object.__init__" :=
  ⟨by decide +kernel, by decide +kernel, ⟨_, _, mro_map⟩, madeBy_type mro_map lookup_map_new (by decide +kernel), by decide +kernel, by rw [isSubtype_type]; kernel_rfl, slot_map_init⟩
theorem typeCall_map_2 (a b : Value) : checkTypeCall "map" ⟨[a, b], []⟩ = pure () := by kernel_rfl
theorem newCall_map_2 (a b : Value) : checkBuiltinCall "map.__new__" ⟨[.type "map", a, b], []⟩ = pure () := by kernel_rfl
theorem args_object_init_3 (o a b : Value) : argsOk "object.__init__" ⟨[o, a, b], []⟩ := PySem.F.initArgs_range_2 o a b
theorem entry_map_new : entryFor table "map.__new__" = some Builtin.«map.__new__» := entryFor_of_tree (by kernel_rfl)
theorem entry_map_next : entryFor table "map.__next__" = some Builtin.«map.__next__» := entryFor_of_tree (by kernel_rfl)
theorem args_map_next_1 (a : Value) : argsOk "map.__next__" ⟨[a], []⟩ := by unfold argsOk; kernel_rfl
theorem sub_map : isSubtype (.type "map") (.type "map") = pure true := by rw [isSubtype_type]; kernel_rfl
noncomputable def itObj (l : Addr) : Obj := { cls := .type "list_iterator", data := .fields #[.ref l, .int 0 0] }
noncomputable def tupObj (j : Addr) : Obj := { cls := .type "tuple", data := .seq #[.ref j] }
noncomputable def mapObj (t fa : Addr) : Obj := { cls := .type "map", data := .fields #[.ref t, .ref fa] }
theorem meets_map_new (fa l : Addr) (items : Array Value) (n : Nat) :
    Meets (Builtin.«map.__new__» ⟨[.type "map", .ref fa, .ref l], []⟩) (fun _ R s => s.heap.get? l = some { cls := .type "list", dict := none, data := .seq items n, slots := #[] } ∧
      R (.ok (.ret (.ref ((s.heap.push (itObj l)).push (tupObj s.heap.objs.size)).objs.size)))
        { s with heap := ((s.heap.push (itObj l)).push (tupObj s.heap.objs.size)).push (mapObj (s.heap.push (itObj l)).objs.size fa) }) :=
  .of_wp fun prog w A R s h => by
    obtain ⟨hp, g, d, tk, os⟩ := s; refine byA (h) fun hl h => ?_
    have hsub := sub_map
    have hL : Heap.IsList (Shared.heap ⟨hp, g, d, tk, os⟩) l items := ⟨_, hl, rfl, n, rfl⟩
    wp_walk using wpAny_loadPart' hl, wpAny_pyIter_list hL
    exact ⟨_, rfl, h⟩
section
variable {prog : Program} {w : World} {A : Around} {E : Value -> Shared -> Prop} {s : Shared}
theorem call_map {fa l : Addr} {items : Array Value} {Q : Value -> Shared -> Prop} (hl : s.heap.PlainList l items)
    (h : ∀ h', h'.get? s.heap.objs.size = some (itObj l) -> h'.get? (s.heap.objs.size + 1) = some (tupObj s.heap.objs.size) -> h'.get? (s.heap.objs.size + 2) = some (mapObj (s.heap.objs.size + 1) fa) ->
      (∀ b o, s.heap.get? b = some o -> h'.get? b = some o) -> Q (.ref (s.heap.objs.size + 2)) { s with heap := h' }) :
    wpAny (model prog w) A (call (.type "map") [.ref fa, .ref l]) Q E s := by
  refine byE (hl) fun n hl => ?_
  refine callType_new called_map (by decide) (typeCall_map_2 _ _) (newCall_map_2 _ _) (fun obj => args_object_init_3 obj _ _) entry_map_new (meets_map_new fa l items n) ⟨hl, ?_⟩
  have z1 : (s.heap.push (itObj l)).objs.size = s.heap.objs.size + 1 := Heap.size_push ..
  have z2 : ((s.heap.push (itObj l)).push (tupObj s.heap.objs.size)).objs.size = s.heap.objs.size + 2 := by rw [Heap.size_push, z1]
  have g3 := Heap.get?_push_size ((s.heap.push (itObj l)).push (tupObj s.heap.objs.size)) (o := mapObj (s.heap.push (itObj l)).objs.size fa) rfl
  have g2 := Heap.get?_push_size (s.heap.push (itObj l)) (o := tupObj s.heap.objs.size) rfl
  have g1 := Heap.get?_push_size s.heap (o := itObj l) rfl
  show _ /\ _
  rw [z2] at g3 ⊢
  rw [z1] at g3 g2 ⊢
  exact ⟨⟨_, g3, rfl⟩, h _ (Heap.get?_push_of_some _ (Heap.get?_push_of_some _ g1)) (Heap.get?_push_of_some _ g2) g3 fun b o e => Heap.get?_push_of_some _ (Heap.get?_push_of_some _ (Heap.get?_push_of_some _ e))⟩
theorem map_next_item {I T J l fa : Addr} {i : Nat} {items : Array Value} {x : Value} {Q : Option Value -> Shared -> Prop} (hI : s.heap.get? I = some (mapObj T fa)) (hT : s.heap.get? T = some (tupObj J))
    (hJ : s.heap.IsListIter J l i) (hl : s.heap.IsList l items) (hx : items[i]? = some x)
    (hc : ∀ h' E', h'.IsListIter J l (i + 1) -> Heap.SameBut J s.heap h' -> wpAny (model prog w) A.in1 (call (.ref fa) [x]) (fun r s' => Q (some r) s') E' { s with heap := h' }) : wpAny (model prog w) A (pyNext (.ref I)) Q E s := by
  have hTy : s.TypeIs (.ref I) "map" := ⟨_, hI, rfl⟩
  have hJI : I ≠ J := by
    rintro rfl
    (refine byEAA (hJ) fun o e c _ => ?_; (try clear hJ))
    rw [hI] at e; cases e; exact absurd c (by simp [mapObj])
  unfold pyNext
  refine wpAny_bind (wpAny_attempt (wpAny_callSpecial?_slot (name := Str.ofString "__next__") hTy slot_map_next
    (wpAny_call_entry slot_map_next hTy entry_map_next ?_ (args_map_next_1 _))))
  unfold Builtin.«map.__next__»
  refine wpAny_bind (wpAny_pure ?_)
  refine wpAny_bind (wpAny_field hI rfl (x := .ref T) rfl ?_)
  refine wpAny_bind (wpAny_seqItems hT rfl ?_)
  simp only [List.forIn_toArray]
  refine wpAny_bind ?_
  rw [List.forIn_cons]
  refine wpAny_bind (wpAny_bind (wpAny_holding (wpAny_nextOf_list_item hJ hl hx fun h' hit hs => ?_)))
  refine wpAny_pure ?_
  dsimp only
  rw [List.forIn_nil]
  refine wpAny_pure ?_
  have hI' : h'.get? I = some (mapObj T fa) := (hs.2 I hJI).trans hI
  refine wpAny_bind (wpAny_field hI' rfl (x := .ref fa) rfl ?_)
  refine wpAny_bind (wpAny_holding (wpAny_mono (hc h' _ hit hs) (fun r s' hr => ?_) fun _ _ e => e))
  exact wpAny_bind (wpAny_letGo (wpAny_pure ⟨r, rfl, wpAny_pure hr⟩))
theorem map_next_end {I T J l fa : Addr} {i : Nat} {items : Array Value} {Q : Option Value -> Shared -> Prop} (hh : A.handled = none) (hI : s.heap.get? I = some (mapObj T fa)) (hT : s.heap.get? T = some (tupObj J))
    (hJ : s.heap.IsListIter J l i) (hl : s.heap.IsList l items) (hx : items[i]? = none)
    (hQ : ∀ h', Heap.ExtBut J s.heap h' -> Q none { s with heap := h' }) : wpAny (model prog w) A (pyNext (.ref I)) Q E s := by
  have hTy : s.TypeIs (.ref I) "map" := ⟨_, hI, rfl⟩
  unfold pyNext
  refine wpAny_bind (wpAny_attempt (wpAny_callSpecial?_slot (name := Str.ofString "__next__") hTy slot_map_next
    (wpAny_call_entry slot_map_next hTy entry_map_next ?_ (args_map_next_1 _))))
  unfold Builtin.«map.__next__»
  refine wpAny_bind (wpAny_pure ?_)
  refine wpAny_bind (wpAny_field hI rfl (x := .ref T) rfl ?_)
  refine wpAny_bind (wpAny_seqItems hT rfl ?_)
  simp only [List.forIn_toArray]
  refine wpAny_bind ?_
  rw [List.forIn_cons]
  refine wpAny_bind (wpAny_bind (wpAny_holding (wpAny_nextOf_list_end hh hJ hl hx fun h' x he' hx' => ?_)))
  (refine byEA (hx') fun o ho hc => ?_; (try clear hx'))
  refine wpAny_bind (wpAny_isInstance (T := "StopIteration") (b := true) ⟨o, ho, hc⟩ isSubtype_stop ?_)
  exact wpAny_pure (hQ _ he')
theorem map_iter {I T fa : Addr} {Q : Value -> Shared -> Prop} (hI : s.heap.get? I = some (mapObj T fa)) (h : Q (.ref I) s) : wpAny (model prog w) A (pyIter (.ref I)) Q E s := by
  have hT : s.TypeIs (.ref I) "map" := ⟨_, hI, rfl⟩
  refine wpAny_pyIter_slot hT slot_map_iter (wpAny_call_entry slot_map_iter hT entry_map_iter ?_ (args_map_iter_1 _))
  show wpAny _ _ (ret (.ref I)) _ _ s
  exact wpAny_pure ⟨_, rfl, "map", _, hT, slot_map_next.lookup, h⟩
end
section
variable {B : Base} {k : Nat} {A : Around}
theorem keptE {h h' : Heap} {b : Addr} {o : Obj} (k : Kp h h') (e : h.get? b = some o) (h1 : o.cls ≠ .type "frame") (h2 : o.cls ≠ .none) : h'.get? b = some o := (k b o e).exact h1 h2
theorem isList_kp {h h' : Heap} {l : Addr} {items : Array Value} (x : h.PlainList l items) (k : Kp h h') : h'.PlainList l items := let ⟨n, e⟩ := x; ⟨n, keptE k e (by simp) (by simp)⟩
theorem strs_len {vs : List Value} {ys : List Str} (h : StrsAre vs ys) : vs.length = ys.length := by
  induction h with
  | nil => rfl
  | cons y t r ih => exact congrArg (· + 1) ih
theorem strs_get {vs : List Value} {ys : List Str} (h : StrsAre vs ys) : ∀ i (h1 : i < vs.length) (h2 : i < ys.length), ∃ t, vs[i] = .str ys[i] t := by
  induction h with
  | nil => intro i h1; exact absurd h1 (Nat.not_lt_zero _)
  | cons y t r ih =>
    intro i h1 h2
    cases i with
    | zero => exact ⟨t, rfl⟩
    | succ i => exact ih i (Nat.lt_of_succ_lt_succ h1) (Nat.lt_of_succ_lt_succ h2)
theorem strs_app {x : Str} {t' : Tok} {vs : List Value} {ys : List Str} (h : StrsAre vs ys) : StrsAre (vs ++ [.str x t']) (ys ++ [x]) := by
  induction h with
  | nil => exact .cons _ _ .nil
  | cons y t r ih => exact .cons _ _ ih
theorem map_loop (O : B.Ok) {H : Heap} {f : Str} {I T J S l fa : Addr} {items : Array Value} {xs : List Str} {res : Value} {R : Result -> Shared -> Prop} (rm : Room (k + 1) A.in1.in1) (hf : B.mg f = some (.ref fa)) (hc : ∀ x, x ∈ xs -> Calls B (k + 1) f [.str x] (.str x))
    (hp : H.PlainList l items) (hs : StrsAre items.toList xs) (hJH : H.get? J = none) (hSH : H.get? S = none) (hJn : B.n₀ <= J) (hSn : B.n₀ <= S) (hz : xs.length <= sizeLine) :
    ∀ (n i : Nat) (s : Shared) (acc : Array Value) (c : Nat), xs.length - i = n -> i <= xs.length -> Inv B A.in1 s -> Kp H s.heap -> s.heap.get? I = some (mapObj T fa) -> s.heap.get? T = some (tupObj J) -> s.heap.IsListIter J l i ->
      s.heap.get? S = some { cls := .type "list", data := .seq acc c } → StrsAre acc.toList (xs.take i) →
      (∀ s' acc' c', Inv B A.in1 s' → Kp H s'.heap → s'.heap.get? S = some { cls := .type "list", data := .seq acc' c' } → StrsAre acc'.toList xs → R (.ok (.ret res)) s') →
      codeAny B.M A (.builtin "list.extend.loop" ⟨[.ref S, .ref I, res], []⟩) R s := by
  have len : items.size = xs.length := strs_len hs
  have at_ : ∀ i (hi : i < items.size), ∃ t, items[i] = .str (xs[i]'(len ▸ hi)) t := fun i hi => strs_get hs i hi (len ▸ hi)
  intro n
  induction n with
  | zero =>
    intro i s acc c hk hi inv kp hI hT hJ hS hacc hR
    have hin : i = xs.length := Nat.le_antisymm hi (Nat.le_of_sub_eq_zero hk)
    refine codeAny_builtin F.entry_extend_loop ?_
    rw [Around.under_plainId F.plain_extend_loop _]
    show wpAny _ A.in1 (pyNext (.ref I) >>= _) _ _ s
    refine wpAny_bind (map_next_end (prog := B.prog) (w := B.w) (rm.handled (Nat.succ_pos _)) hI hT hJ (isList_kp hp kp).isList (Array.getElem?_eq_none (by rw [len, hin]; exact Nat.le_refl _)) fun h' he => ?_)
    (refine byEAA (hJ) fun oJ j1 j2 j3 => ?_; (try clear hJ))
    have i' := inv_extBut O inv he hJn j1 (by rw [j2]; simp)
    have nJ : ∀ b o, H.get? b = some o -> b ≠ J := fun b o e q => by rw [q, hJH] at e; cases e
    have kp' : Kp H h' := fun b o e => by
      rcases kp b o e with q | ⟨a1, sl, q⟩ | ⟨a1, o', q⟩
      · exact .inl (he b _ (nJ b o e) q)
      · exact .inr (.inl ⟨a1, sl, he b _ (nJ b o e) q⟩)
      · exact .inr (.inr ⟨a1, o', he b _ (nJ b o e) q⟩)
    have hSJ : S ≠ J := by rintro rfl; rw [hS] at j1; cases j1; simp at j2
    exact wpAny_pure (hR { s with heap := h' } acc c i' kp' (he S _ hSJ hS) (by rw [hin, List.take_length] at hacc; exact hacc))
  | succ n ih =>
    intro i s acc c hk hi inv kp hI hT hJ hS hacc hR
    have hlt : i < xs.length := Nat.lt_of_sub_eq_succ hk
    have hlt' : i < items.size := len ▸ hlt
    refine byE (at_ i hlt') fun t et => ?_
    refine codeAny_builtin F.entry_extend_loop ?_
    rw [Around.under_plainId F.plain_extend_loop _]
    show wpAny _ A.in1 (pyNext (.ref I) >>= _) _ _ s
    refine byEAA (id hJ) fun oJ j1 j2 j3 => ?_
    have hSJ : S ≠ J := by rintro rfl; rw [hS] at j1; cases j1; simp at j2
    have hIJ : I ≠ J := by rintro rfl; rw [hI] at j1; cases j1; simp [mapObj] at j2
    have hTJ : T ≠ J := by rintro rfl; rw [hT] at j1; cases j1; simp [tupObj] at j2
    have hIS : I ≠ S := by rintro rfl; rw [hI] at hS; simp [mapObj] at hS
    have hTS : T ≠ S := by rintro rfl; rw [hT] at hS; simp [tupObj] at hS
    refine wpAny_bind (map_next_item (prog := B.prog) (w := B.w) hI hT hJ (isList_kp hp kp).isList (x := items[i]) (by simp [hlt']) fun h' E' hit hsm => ?_)
    have i' : Inv B A.in1 { s with heap := h' } := inv.sameBut O (tk := s.toks) hsm hJn fun o e => by rw [j1] at e; cases e; rw [j2]; simp
    have key := hc _ (List.getElem_mem hlt) A.in1.in1 (fun _ => False) { s with heap := h' } [items[i]] (fun r s' => wpAny B.M A.in1 (match some r with
        | some v => (do updateSeq S (·.push v); again (.builtin "list.extend.loop" ⟨[.ref S, .ref I, res], []⟩) : Sem Fin)
        | none => ret res) (fun fin s' => match fin with | .done f => R (.ok f) s' | .again c' => c'.quiet = true /\ codeAny B.M A c' R s') (fun e s' => R (.error e) s') s') E' rm i'.in1 (fun _ q => q.elim) (by simp only [Lays, Lay]; exact ⟨_, [], rfl, ⟨t, et⟩, rfl⟩)
    refine byEA (key (by
      intro v s₂ i₂ k₂ l₂
      simp only [Lay] at l₂
      obtain ⟨t', rfl⟩ := l₂
      have nJ : ∀ b o, H.get? b = some o -> b ≠ J := fun b o e q => by rw [q, hJH] at e; cases e
      have kp' : Kp H h' := fun b o e => (kp b o e).same (hsm.2 b (nJ b o e))
      have kp₂ : Kp H s₂.heap := kp'.trans k₂
      have hS₂ : s₂.heap.get? S = some { cls := .type "list", data := .seq acc c } := keptE k₂ ((hsm.2 S hSJ).trans hS) (by simp) (by simp)
      have hI₂ : s₂.heap.get? I = some (mapObj T fa) := keptE k₂ ((hsm.2 I hIJ).trans hI) (by simp [mapObj]) (by simp [mapObj])
      have hT₂ : s₂.heap.get? T = some (tupObj J) := keptE k₂ ((hsm.2 T hTJ).trans hT) (by simp [tupObj]) (by simp [tupObj])
      have hJ₂ : s₂.heap.IsListIter J l (i + 1) := by
        obtain ⟨o, e, c1, c2⟩ := hit
        exact ⟨o, keptE k₂ e (by rw [c1]; simp) (by rw [c1]; simp), c1, c2⟩
      have asz : acc.size = i := (strs_len hacc).trans (by rw [List.length_take]; exact Nat.min_eq_left hi)
      show wpAny _ A.in1 (updateSeq S (·.push _) >>= _) _ _ _
      refine wpAny_bind ?_
      refine wpAny_updateSeq hS₂ rfl (wpAny_pure ⟨plainId_quiet F.plain_extend_loop _, ih (i + 1) _ (acc.push (.str xs[i] t')) _ (by rw [Nat.sub_succ, hk]; rfl) hlt
        (i₂.of_in1.sameBut O (tk := s₂.toks) (Heap.SameBut.update ..) hSn fun o e => by rw [hS₂] at e; cases e; simp) (fun b o e => (kp₂ b o e).same (Heap.get?_update_other _ _ fun q : S = b => by rw [<- q, hSH] at e; cases e))
        ((Heap.get?_update_other _ _ (Ne.symm hIS)).trans hI₂) ((Heap.get?_update_other _ _ (Ne.symm hTS)).trans hT₂) (let ⟨o, e, r⟩ := hJ₂; ⟨o, (Heap.get?_update_other _ _ hSJ).trans e, r⟩) (Heap.get?_update_self _ hS₂ rfl) ?_ hR⟩) (by rw [asz]; exact Nat.le_of_lt (Nat.lt_of_lt_of_le hlt hz)) (by show (acc.push _).size <= sizeLine + 1; rw [Array.size_push, asz]; exact Nat.succ_le_succ (Nat.le_of_lt (Nat.lt_of_lt_of_le hlt hz)))
      rw [Array.toList_push, List.take_add_one, List.getElem?_eq_getElem hlt]
      exact strs_app hacc)) fun fa' hfa cc => ?_
    rw [hf] at hfa; cases hfa
    exact cc
theorem map_collect (O : B.Ok) {H : Heap} {f : Str} {I T J l fa : Addr} {items : Array Value} {xs : List Str} {Q : List Value -> Shared -> Prop} {E : Value -> Shared -> Prop} {s : Shared} (rm : Room (k + 1) A.in1.in1) (hf : B.mg f = some (.ref fa)) (hc : ∀ x, x ∈ xs -> Calls B (k + 1) f [.str x] (.str x))
    (hp : H.PlainList l items) (hs : StrsAre items.toList xs) (hJH : H.get? J = none) (hJn : B.n₀ <= J) (hz : xs.length <= sizeLine) (old : Old H s.heap) (inv : Inv B A s)
    (hI : s.heap.get? I = some (mapObj T fa)) (hT : s.heap.get? T = some (tupObj J)) (hJ : s.heap.IsListIter J l 0)
    (hQ : ∀ s' (acc : Array Value), Inv B A s' -> Kp H s'.heap -> StrsAre acc.toList xs -> Q acc.toList s') : wpAny B.M A (collect (.ref I)) Q E s := by
  have hSI : s.heap.objs.size ≠ I := Nat.ne_of_gt (Heap.lt_size hI)
  have hTy : s.TypeIs (.ref I) "map" := ⟨_, hI, rfl⟩
  unfold collect
  refine wpAny_bind (wpAny_runValue (codeAny_builtin F.entry_proto_collect ?_))
  rw [Around.under_plainId F.plain_proto_collect _]
  show wpAny _ A.in1 (PySem.newList [] >>= fun l => again (.builtin "list.__iadd__" ⟨[l, .ref I], []⟩)) _ _ s
  refine wpAny_bind (wpAny_newObj_type ?_)
  refine wpAny_pure ⟨plainId_quiet F.plain_list_iadd _, codeAny_builtin F.entry_list_iadd ?_⟩
  rw [Around.under_plainId F.plain_list_iadd _]
  have hI₁ : (s.heap.push { cls := .type "list", data := .seq ([] : List Value).toArray }).get? I = some (mapObj T fa) := Heap.get?_push_of_some _ hI
  have hTy₁ : Shared.TypeIs { s with heap := s.heap.push { cls := .type "list", data := .seq ([] : List Value).toArray } } (.ref I) "map" := ⟨_, hI₁, rfl⟩
  show wpAny _ A.in1 (Builtin.List.listExtendWith (.ref s.heap.objs.size) (.ref I) (.ref s.heap.objs.size)) _ _ _
  unfold Builtin.List.listExtendWith
  refine wpAny_bind (wpAny_typeOf hTy₁ ?_)
  have h1 : Builtin.List.listSameRef (.ref s.heap.objs.size) (.ref I) = false := by simp [Builtin.List.listSameRef, hSI]
  have h2 : (Value.type "map" == Value.type "list") = false := by decide
  have h3 : (Value.type "map" == Value.type "tuple") = false := by decide
  simp only [h1, h2, h3, Bool.or_false, Bool.false_eq_true, if_false]
  refine wpAny_bind (map_iter hI₁ ?_)
  refine wpAny_bind (wpAny_holding ?_)
  unfold Builtin.List.listLengthHint
  refine wpAny_bind (wpAny_specialOf hTy₁ map_no_len ?_)
  show wpAny _ A.in1 (specialOf (Value.ref I) (Str.ofString "__length_hint__") >>= _) _ _ _
  refine wpAny_bind (wpAny_specialOf hTy₁ map_no_hint ?_)
  refine wpAny_pure ?_
  show wpAny _ A.in1 (rule "list.extend.makes-room" >>= fun _ => Builtin.List.listTouch (.ref s.heap.objs.size) >>= fun _ =>
    again (.builtin "list.extend.loop" ⟨[.ref s.heap.objs.size, .ref I, .ref s.heap.objs.size], []⟩)) _ _ _
  refine wpAny_bind (wpAny_rule ?_)
  have hS₁ : (s.heap.push { cls := .type "list", data := .seq ([] : List Value).toArray }).get? s.heap.objs.size = some { cls := .type "list", data := .seq ([] : List Value).toArray } := Heap.get?_push_size _ rfl
  refine wpAny_bind ?_
  show wpAny _ A.in1 (updateSeq s.heap.objs.size (·.push .none) >>= fun _ => updateSeq s.heap.objs.size (·.pop)) _ _ _
  refine wpAny_bind (wpAny_updateSeq hS₁ rfl ?_)
  have hS₂ := Heap.get?_update_self (Obj.mapSeq (·.push Value.none)) hS₁ rfl
  refine wpAny_updateSeq hS₂ rfl ?_
  have hS₃ := Heap.get?_update_self (Obj.mapSeq (·.pop)) hS₂ rfl
  have oth : ∀ b o, b ≠ s.heap.objs.size -> s.heap.get? b = some o ->
      (((s.heap.push { cls := .type "list", data := .seq ([] : List Value).toArray }).update s.heap.objs.size (Obj.mapSeq (·.push Value.none))).update s.heap.objs.size (Obj.mapSeq (·.pop))).get? b = some o :=
    fun b o hb e => (Heap.get?_update_other _ _ (Ne.symm hb)).trans ((Heap.get?_update_other _ _ (Ne.symm hb)).trans (Heap.get?_push_of_some _ e))
  have ltn : ∀ b o, s.heap.get? b = some o -> b ≠ s.heap.objs.size := fun b o e => Nat.ne_of_lt (Heap.lt_size e)
  have hSH : H.get? s.heap.objs.size = none := by
    cases q : H.get? s.heap.objs.size with
    | none => rfl
    | some o => exact absurd (Heap.lt_size (old _ _ q)) (Nat.lt_irrefl _)
  refine wpAny_pure ⟨plainId_quiet F.plain_extend_loop _, map_loop O rm hf hc hp hs hJH hSH hJn (O.size _ inv.good) hz _ 0 _ _ _ rfl (Nat.zero_le _)
    (inv.keep O (tk := s.toks) fun b o e => oth b o (ltn b o e) e).in1 (.of fun b o e => oth b o (ltn b o (old b o e)) (old b o e)) (oth _ _ (ltn _ _ hI) hI) (oth _ _ (ltn _ _ hT) hT) (let ⟨o, e, r⟩ := hJ; ⟨o, oth _ _ (ltn _ _ e) e, r⟩) hS₃ .nil fun s' acc' c' i' kp' hS' hacc => ?_⟩
  show wpAny _ A (load s.heap.objs.size >>= _) _ _ s'
  refine wpAny_bind (wpAny_load hS' ?_)
  exact wpAny_pure (hQ s' acc' i'.of_in1 kp' hacc)
theorem code_tuple_map (O : B.Ok) {H : Heap} {f : Str} {I T J l fa : Addr} {items : Array Value} {xs : List Str} {Q₁ : Value -> Shared -> Prop} {E : Value -> Shared -> Prop} {s : Shared} (rm : Room (k + 1) A.in1.in1.in1) (hf : B.mg f = some (.ref fa)) (hc : ∀ x, x ∈ xs -> Calls B (k + 1) f [.str x] (.str x))
    (hp : H.PlainList l items) (hs : StrsAre items.toList xs) (hJH : H.get? J = none) (hJn : B.n₀ <= J) (hz : xs.length <= sizeLine) (old : Old H s.heap) (inv : Inv B A.in1 s)
    (hI : s.heap.get? I = some (mapObj T fa)) (hT : s.heap.get? T = some (tupObj J)) (hJ : s.heap.IsListIter J l 0)
    (h : ∀ s' (acc : Array Value), Inv B A.in1 s' → Kp H s'.heap → StrsAre acc.toList xs → Q₁ (.ref s'.heap.objs.size) { s' with heap := s'.heap.push { cls := .type "tuple", data := .seq acc } }) :
    codeAny B.M A (.call (.builtin "tuple.__new__") ⟨[.type "tuple", .ref I], []⟩) (wants Q₁ E) s := by
  refine codeAny_of_tree ?_
  show wpAny _ A.in1 (do checkBuiltinCall "tuple.__new__" ⟨[.type "tuple", .ref I], []⟩; again (.builtin "tuple.__new__" ⟨[.type "tuple", .ref I], []⟩)) _ _ s
  refine wpAny_bind (wpAny_of_eq (F.newCall_tuple_1 _) (wpAny_pure ⟨plainId_quiet F.plain_tuple_new _, codeAny_builtin F.entry_tuple_new ?_⟩))
  rw [Around.under_plainId F.plain_tuple_new _]
  have hsub := sub_tuple_self
  have hinit := init_tuple_lookup
  have hmh := madeHere_tuple
  have hTI : s.TypeIs (.ref I) "map" := ⟨_, hI, rfl⟩
  have hcoll := fun Q E hQ => map_collect (A := A.in1) (E := E) (Q := Q) O rm hf hc hp hs hJH hJn hz old inv hI hT hJ hQ
  wp_walk using wpAny_typeOf hTI, hcoll
  intro s' acc i' hk hacc
  have asz : acc.size <= sizeLine := by rw [show acc.size = xs.length from strs_len hacc]; exact hz
  show wpAny _ _ (Builtin.Tuple.tupleExact acc.toList.toArray >>= fun v => ret v) _ _ _
  unfold Builtin.Tuple.tupleExact
  refine wpAny_bind (wpAny_newObj_type ?_ (by show acc.toList.toArray.size <= sizeLine; simp only [Array.toArray_toList]; exact asz))
  refine wpAny_pure ?_
  have e : acc.toList.toArray = acc := by simp
  rw [e]
  exact h s' acc i' hk hacc
end
section
variable {B : Base} {k : Nat} {K : Kinds} {Γ Γ' : G} {V V' V₀ W : Addr -> Prop} {h h' : Heap} {env : Env} {A : Around} {s : Shared}
theorem Ev.tupMap (O : B.Ok) {f : Str} {p p1 p2 p3 p4 : Pos} {e : Expr} {xs : List Str} (bt : BltAt B "tuple" (.type "tuple")) (hKt : K "tuple" = some .globalImplicit) (bm : BltAt B "map" (.type "map")) (hKm : K "map" = some .globalImplicit) (hKf : K f = some .globalImplicit)
    (y : EvB B (k + 5) K Γ e (.list (sl xs))) (hc : ∀ x, x ∈ xs → Calls B (k + 1) f [.str x] (.str x)) (hf : ∃ fa, B.mg f = some (.ref fa)) (hz : xs.length ≤ sizeLine) (hs : notStar e = true := by rfl) (hd : (f == ("__debug__" : Str)) = false := by decide) :
    Ev B (k + 5) K Γ (.Call (.Name "tuple" p) [.Call (.Name "map" p1) [.Name f p2, e] [] p3] [] p4) (.tup (sl xs)) := .mk fun A env V s Q E rm eo i g h => by
  refine byE (hf) fun fa hf => ?_
  refine Call_ (glob_blt O bt hKt eo i (callWith_blt (f := .type "tuple") (by rfl) (by rfl) ?_))
  rw [starEach_cons rfl, starEach_nil]
  refine Calls.spliced_cons (Call_ (glob_blt O bm hKm eo i (callWith_blt (f := .type "map") (by rfl) (by unfold noStars noStars noStars; rw [hs]; rfl) ?_)))
  rw [starEach_cons rfl, starEach_cons hs, starEach_nil]
  refine Calls.spliced_cons (glob_fn O hf hKf eo i (Calls.spliced_cons (y.run A env V s _ _ rm eo i g fun v s₁ i₁ k₁ l₁ => ?_)) hd)
  (refine byEEA (l₁.asList) fun l items hq1 hr2 => ?_; subst hq1; refine byA (hr2) fun il ls => ?_; (try clear hr2))
  refine Calls.spliced_nil (call_map (prog := B.prog) (w := B.w) il fun h' a1 a2 a3 old => ?_)
  refine Calls.spliced_nil ?_
  have sz : s₁.heap.objs.size + 2 < h'.objs.size := Heap.lt_size a3
  have hT2 : Shared.TypeIs { s₁ with heap := h' } (.ref (s₁.heap.objs.size + 2)) "map" := ⟨_, a3, rfl⟩
  have rm4 : Room (k + 1) A.in1.in1.in1.in1 := Room.in1 (k := k + 1) (Room.in1 (k := k + 2) (Room.in1 (k := k + 3) (Room.in1 (k := k + 4) rm)))
  refine callType_codes (Q₁ := fun obj s₂ => s₂.TypeIs obj "tuple" ∧ Q obj s₂) F.called_tuple (F.typeCall_tuple_1 _) F.entry_object_init
    (code_tuple_map (A := A.in1) (H := s₁.heap) (f := f) (I := s₁.heap.objs.size + 2) (T := s₁.heap.objs.size + 1) (J := s₁.heap.objs.size) (l := l) (fa := fa) (items := items) (xs := xs) O rm4 hf hc il (strsAre_of ls) (none_size (Nat.le_refl _)) (O.size _ i₁.good) hz old (i₁.keep O (tk := s₁.toks) old).in1.in1 a3 a2 ⟨_, a1, rfl, rfl⟩ fun s' acc i' kp' hacc => ⟨⟨_, Heap.get?_push_size _ rfl, rfl⟩, ?_⟩) fun obj s₂ h₂ => ?_
  · have kp2 : ∀ b o, s'.heap.get? b = some o → (s'.heap.push { cls := .type "tuple", data := .seq acc }).get? b = some o := fun b o e => Heap.get?_push_of_some _ e
    refine h _ _ (i'.of_in1.of_in1.keep O (tk := s'.toks) kp2) (k₁.trans (kp'.trans (.of kp2))) ?_
    simp only [Lay]
    refine ⟨_, rfl, fun q => ?_, acc, ⟨_, Heap.get?_push_size _ rfl⟩, lays_strsAre hacc⟩
    refine byE ((((g.kp k₁).kp kp').dom _ q)) fun o e => ?_
    exact absurd (Heap.lt_size e) (Nat.lt_irrefl _)
  · exact ⟨h₂.1, F.args_object_init_2 obj _, object_init_meets F.called_tuple.init.lookup F.called_tuple.made (by decide) B.prog B.w A.in1 _ s₂ ⟨h₂.1, rfl, h₂.2⟩⟩
end
open AutoSeq1 (wpAny_loadPart')
noncomputable def hb (b : Bool) : Int := if b then 1 else 0
noncomputable def boolTab (b led : Bool) : SetTable := { mask := 7, place := #[if b then 1 else 0], dummies := #[], finger := 0, led := led, moves := 0, plain := true }
noncomputable def set0 (led : Bool) : Obj := { cls := .type "set", dict := none, data := .set #[] 0 (.fresh 0 0 led) }
noncomputable def set1 (b led : Bool) (ep : Nat) : Obj := { cls := .type "set", dict := none, data := .set #[(hb b, .bool b)] ep (boolTab b led) }
theorem layNew_bool (b led : Bool) : layNew (.fresh 0 0 led) #[] (hb b) (.bool b) = (#[(hb b, .bool b)], boolTab b led, false, false) := by
  cases b <;> cases led <;> decide +kernel
section
variable {prog : Program} {w : World} {A : Around} {E : Value -> Shared -> Prop} {s : Shared}
theorem pyHash_bool {b : Bool} {Q : Int -> Shared -> Prop} (h : Q (hb b) { s with toks := s.toks + 1 }) : wpAny (model prog w) A (PySem.pyHash (.bool b)) Q E s := by
  have hT : s.TypeIs (.bool b) "bool" := rfl
  unfold pyHash
  have hv : [Value.bool b].any Value.onHeap = false := rfl
  refine wpAny_bind ?_
  rw [cRoomFor, if_neg (by rw [hv]; exact Bool.false_ne_true)]; refine wpAny_pure ?_
  refine wpAny_bind (wpAny_specialOf hT F.slot_bool_hash.lookup ?_)
  show wpAny _ _ (if (some (Value.builtin "int.__hash__") == some Value.none) = true then _ else _) Q E s
  rw [if_neg (by rw [beq_builtin_none]; exact Bool.false_ne_true)]
  refine wpAny_bind (wpAny_specialOf hT F.slot_bool_hash.lookup ?_)
  show wpAny _ _ (callSpecialIfBoundUnlessNone? (.bool b) "__hash__" _ >>= _) Q E s
  refine wpAny_bind (wpAny_callSpecialIfBoundUnlessNone?_slot hT F.slot_bool_hash
    (wpAny_call_entry F.slot_bool_hash hT F.entry_int_hash
      (show wpAny _ _ (do ret (<- mkInt (rawHash (if b then 1 else 0)))) _ _ s from wpAny_ret_mkInt ?_) (F.args_int_hash_1 _)))
  cases b
  · show wpAny _ _ (if (decide (-(2 : Int) ^ 63 <= rawHash 0) && decide (rawHash 0 < 2 ^ 63)) = true then _ else _) Q E _
    rw [if_pos (by decide +kernel)]
    exact wpAny_pure h
  · show wpAny _ _ (if (decide (-(2 : Int) ^ 63 <= rawHash 1) && decide (rawHash 1 < 2 ^ 63)) = true then _ else _) Q E _
    rw [if_pos (by decide +kernel)]
    exact wpAny_pure h
theorem addB0 {a : Addr} {b led : Bool} {Q : Bool -> Shared -> Prop} (ho : s.heap.get? a = some (set0 led))
    (h : ∀ h', Heap.SameBut a s.heap h' -> h'.get? a = some (set1 b led 1) -> Q true { s with heap := h' }) : wpAny (model prog w) A (setAddHashed a (.bool b) (hb b)) Q E s := by
  unfold setAddHashed setAddHashedIn
  refine wpAny_holding (wpAny_bind (wpAny_setState_of ho rfl (by cases led <;> rfl) ?_))
  dsimp only
  rw [show byScan (.bool b) #[] = true by simp [byScan, Value.scannable, scanBound]]
  simp only [↓reduceIte]
  unfold setAddByScan
  refine wpAny_bind ?_
  refine wpAny_bind (wpAny_rule ?_)
  refine wpAny_bind ?_
  show wpAny _ _ (pure ScanMet.absent) _ _ _
  refine wpAny_pure ?_
  dsimp only
  rw [layNew_bool]
  dsimp only
  refine wpAny_bind (wpAny_pure ?_)
  refine wpAny_bind ?_
  rw [hashByValue_scannable 8 rfl]
  refine wpAny_pure ?_
  simp only [plainKind, if_true]
  refine wpAny_bind (wpAny_storeSet_of ho rfl ?_ (by show 1 <= sizeLine; decide))
  rw [show (boolTab b led).tooFull = false by cases b <;> cases led <;> decide]
  simp only [Bool.and_false, Bool.false_eq_true, if_false]
  refine wpAny_pure (wpAny_pure (h _ (Heap.SameBut.update ..) ?_))
  rw [Heap.get?_update_self _ ho (by rfl)]
  rfl
theorem addB1 {a : Addr} {b led : Bool} {ep : Nat} {Q : Bool -> Shared -> Prop} (ho : s.heap.get? a = some (set1 b led ep)) (h : Q false s) : wpAny (model prog w) A (setAddHashed a (.bool b) (hb b)) Q E s := by
  unfold setAddHashed setAddHashedIn
  have hfit : (boolTab b led).fits 1 = true := by cases b <;> cases led <;> decide
  refine wpAny_holding (wpAny_bind (wpAny_setState_of ho rfl hfit ?_))
  dsimp only
  rw [show byScan (.bool b) #[(hb b, .bool b)] = true by simp [byScan, Value.scannable, scanBound]]
  simp only [↓reduceIte]
  unfold setAddByScan
  refine wpAny_bind ?_
  refine wpAny_bind (wpAny_rule ?_)
  refine wpAny_bind ?_
  show wpAny _ _ (setScanFrom a (.bool b) (hb b) true [(hb b, .bool b)] 0) _ _ _
  unfold setScanFrom
  rw [if_pos (by simp)]
  refine wpAny_bind (wpAny_setEpoch_of ho rfl hfit ?_)
  refine wpAny_bind (PySem.SeqAt.EqAt.same (.bool b) prog w _ _ ?_)
  simp only [Bool.and_self, if_true]
  exact wpAny_pure (wpAny_pure (wpAny_pure h))
theorem set_add_any {a : Addr} {b led c : Bool} {Q : Value -> Shared -> Prop} (ho : s.heap.get? a = some (if c then set1 b led 1 else set0 led))
    (h : ∀ h', Heap.SameBut a s.heap h' -> h'.get? a = some (set1 b led 1) -> Q .none { s with heap := h', toks := s.toks + 1 }) :
    wpAny (model prog w) A (call (.builtin "set.add") [.ref a, .bool b]) Q E s := by
  have hT : s.TypeIs (.ref a) "set" := ⟨_, ho, by cases c <;> rfl⟩
  refine wpAny_call_entry F.slot_set_add hT F.entry_set_add ?_ (F.args_set_add_2 _ _)
  unfold Builtin.«set.add» Builtin.Frozenset.oneOther
  simp only [List.isEmpty_nil, bind_assoc]
  unfold Builtin.Frozenset.addrOf setAdd
  refine wpAny_bind (wpAny_pure ?_)
  try dsimp only
  refine wpAny_bind (wpAny_pure ?_)
  try dsimp only
  refine wpAny_bind ?_
  refine wpAny_holding ?_
  refine wpAny_bind (pyHash_bool ?_)
  cases c with
  | false =>
    refine addB0 (s := { s with toks := s.toks + 1 }) (led := led) ho fun h' hs he => ?_
    show wpAny _ _ (ret Value.none) _ _ _
    exact wpAny_pure ⟨_, rfl, h h' hs he⟩
  | true =>
    refine addB1 (s := { s with toks := s.toks + 1 }) (led := led) ho ?_
    show wpAny _ _ (ret Value.none) _ _ _
    exact wpAny_pure ⟨_, rfl, h s.heap (Heap.SameBut.refl a s.heap) ho⟩
end
noncomputable def SetAcc (b led c : Bool) (h : Heap) (a : Addr) : Prop := h.get? a = some (if c then set1 b led 1 else set0 led)
noncomputable def DnOk (b : Bool) (dn : List D) (c : Bool) : Prop := c = !dn.isEmpty
section
variable {prog : Program} {w : World} {A : Around} {E : Value -> Shared -> Prop} {s : Shared} {R : Result -> Shared -> Prop}
theorem set_addB {a : Addr} {b led c : Bool} {Q : Value -> Shared -> Prop} (ho : SetAcc b led c s.heap a)
    (h : ∀ h', Heap.SameBut a s.heap h' -> SetAcc b led true h' a -> Q .none { s with heap := h', toks := s.toks + 1 }) :
    wpAny (model prog w) A (call (.builtin "set.add") [.ref a, .bool b]) Q E s := set_add_any ho h
theorem compTurn_set (elt target iter : Expr) (ifs : List Expr) (scope : Scope) (pos : Pos) (it acc : Value) (env : Env) :
    compTurn (.SetComp elt [⟨target, iter, ifs, 0⟩] scope pos) 0 it acc env = (do
      standAt iter.pos
      match <- pyNext it with
      | none => pure (.done .next)
      | some v =>
        letOwnedTupleGo target it v
        PySem.assign target env v
        let mut ok := true
        for c in ifs do
          if ok then ok <- PySem.isTrue c env (eval c env)
        if ok then
          (do let v ← eval elt env; standAt elt.pos; let _ ← call (.builtin "set.add") [acc, v])
        again (.compLoop (.SetComp elt [⟨target, iter, ifs, 0⟩] scope pos) 0 it acc env)) := by rfl
theorem codeAny_compStart_set {elt target iter ifs rest scope pos it acc env}
    (h0 : codeAny (model prog w) A (.compLoop (.SetComp elt (⟨target, iter, ifs, 0⟩ :: rest) scope pos) 0 it acc env) R s)
    (h : wpAny (model prog w) A (pyIter it) (fun it' s' => codeAny (model prog w) A (.compLoop (.SetComp elt (⟨target, iter, ifs, 0⟩ :: rest) scope pos) 0 it' acc env) R s')
      (notedBy (model prog w) A env fun x s' => R (.error x) s') s) :
    codeAny (model prog w) A (.compStart (.SetComp elt (⟨target, iter, ifs, 0⟩ :: rest) scope pos) 0 it acc env) R s := by
  refine codeAny_of_tree ?_
  show wpAny _ _ ((compStart (.SetComp elt (⟨target, iter, ifs, 0⟩ :: rest) scope pos) 0 it acc env).onRaise (fun x => do noteFrame x env; standAt theWindowsPlace)) _ _ s
  refine wpAny_notedAt ?_
  unfold compStart
  show wpAny _ _ (ask >>= _) _ _ s
  refine wpAny_bind (wpAny_askSetting (wpAny_ite ?_))
  split
  · first
      | exact wpAny_bind (wpAny_pure (wpAny_pure (And.intro rfl h0)))
      | exact wpAny_pure (And.intro rfl h0)
  · first
      | exact wpAny_bind (wpAny_rule (wpAny_bind (wpAny_standAt (wpAny_bind (wpAny_mono h (fun it' s' h' => wpAny_pure (And.intro rfl h')) fun _ _ x => x)))))
      | (refine wpAny_bind (wpAny_rule ?_); show wpAny _ _ (standAt iter.pos >>= _) _ _ s; exact wpAny_bind (wpAny_standAt (wpAny_bind (wpAny_mono h (fun it' s' h' => wpAny_pure (And.intro rfl h')) fun _ _ x => x))))
theorem codeAny_compLoop_testsS {elt target iter : Expr} {ifs : List Expr} {scope : Scope} {pos : Pos} {it acc : Value} {env : Env} (I : Nat -> Shared -> Prop)
    (turn : ∀ n s, I n s -> wpAny (model prog w) A (pyNext it) (fun r s₁ => match r with
      | none => R (.ok .next) s₁
      | some v => wpAny (model prog w) A (PySem.assign target env v) (fun _ s₂ =>
          wpAny (model prog w) A (forIn ifs true fun c r => if r = true then do let ok <- PySem.isTrue c env (eval c env); pure (ForInStep.yield ok) else pure (ForInStep.yield r)) (fun ok s₃ =>
            if ok = true then wpAny (model prog w) A (eval elt env) (fun x s₄ =>
              wpAny (model prog w) A (call (.builtin "set.add") [acc, x]) (fun _ s₅ => ∃ m, m < n ∧ I m s₅) (notedBy (model prog w) A env fun e s' => R (.error e) s') s₄) (notedBy (model prog w) A env fun e s' => R (.error e) s') s₃
            else ∃ m, m < n /\ I m s₃) (notedBy (model prog w) A env fun e s' => R (.error e) s') s₂) (notedBy (model prog w) A env fun e s' => R (.error e) s') s₁) (notedBy (model prog w) A env fun e s' => R (.error e) s') s)
    (n : Nat) (h : I n s) (ht : ∀ v, letOwnedTupleGo target it v = pure () := by intro _; rfl) :
    codeAny (model prog w) A (.compLoop (.SetComp elt [⟨target, iter, ifs, 0⟩] scope pos) 0 it acc env) R s := by
  refine codeAny_loop rfl I (fun n s hI => ?_) n h
  show wpAny _ A ((compTurn (.SetComp elt [⟨target, iter, ifs, 0⟩] scope pos) 0 it acc env).onRaise (fun x => do noteFrame x env; theTreesLotGoes x)) _ _ s
  refine wpAny_noted ?_
  rw [compTurn_set]
  refine wpAny_bind (wpAny_standAt (wpAny_bind (wpAny_mono (turn n s hI) (fun r s₁ h₁ => ?_) fun _ _ h' => h')))
  cases r with
  | none => exact wpAny_pure h₁
  | some v =>
    refine wpAny_bind (wpAny_of_eq (ht v) ?_)
    refine wpAny_bind (wpAny_mono h₁ (fun _ s₂ h₂ => wpAny_bind (wpAny_mono h₂ (fun ok s₃ h₃ => ?_) fun _ _ h' => h')) fun _ _ h' => h')
    cases ok with
    | false => exact wpAny_pure ⟨rfl, h₃⟩
    | true =>
      exact wpAny_bind (wpAny_bind (wpAny_mono h₃ (fun x s₄ h₄ => wpAny_bind (wpAny_standAt (wpAny_bind (wpAny_mono h₄ (fun _ s₅ h₅ => wpAny_pure (wpAny_pure ⟨rfl, h₅⟩)) fun _ _ h' => h')))) fun _ _ h' => h'))
end
section
variable {B : Base} {k : Nat} {K : Kinds} {Γ Γ' : G} {V Wc : Addr -> Prop} {h h' : Heap} {env : Env} {x : Str}
theorem CStm.appS (st : CStm B V Wc h env x Γ) {a : Addr} (hs : Heap.SameBut a h h') (wa : Wc a) (ho : ∃ o, h.get? a = some o ∧ o.cls = .type "set") (ht : ∃ o', h'.get? a = some o' ∧ o'.cls = .type "set") : CStm B V Wc h' env x Γ := by
  (refine byEA (ho) fun oa hoa hca => ?_; (try clear ho))
  (refine byA (st.loc) fun wl hr1 => ?_; refine byEE (hr1) fun ol es hr2 => ?_; (try clear hr1); refine byEAA (hr2) fun ep hol hcl hdl => ?_; (try clear hr2))
  have hla : env.locals ≠ a := by
    rintro q
    rw [q, hoa] at hol; cases hol
    rw [hca] at hcl; exact absurd hcl (by simp)
  have keep : ∀ b o, ¬ Wc b -> h.get? b = some o -> h'.get? b = some o := fun b o nb e => (hs.2 b fun q => nb (q ▸ wa)).trans e
  have keepK : ∀ b o, ¬ V b -> h.get? b = some o -> IsData o -> ¬ V b /\ h'.get? b = some o := fun b o nb e _ => ⟨nb, keep b o (fun q => nb (st.sub b q).1) e⟩
  have cell : ∀ c v, CellAt h c v -> CellAt h' c v := fun c v hx => by (refine byEAA (hx) fun o h1 h2 h3 => ?_; (try clear hx)); exact ⟨o, (hs.2 c (by rintro rfl; rw [hoa] at h1; cases h1; rw [hca] at h2; exact absurd h2 (by simp))).trans h1, h2, h3⟩
  have fw : ∀ y w, Looks h env y w -> Looks h' env y w := fun y w l => by
    rcases l with ⟨e, m, am, bm⟩ | ⟨e, c, am, bm⟩
    · exact .inl ⟨e, m, am.kept fun o eo => .inl ((hs.2 _ hla).trans eo), bm⟩
    · exact .inr ⟨e, c, am, cell c _ bm⟩
  refine ⟨⟨fun b hb => ?_, fun y sl e => ?_⟩, st.sub, ⟨wl, ol, es, ep, (hs.2 _ hla).trans hol, hcl, hdl⟩, ?_, st.apart, fun y a? d v e l => ?_⟩
  · by_cases q : b = a
    · subst q; (refine byEA (ht) fun o' h1 h2 => ?_; (try clear ht)); exact ⟨o', h1, fun q => q.1 (.inr (.inr (.inr h2)))⟩
    · refine byEA (st.r.domP b hb) fun o e n => ?_; exact ⟨o, (hs.2 b q).trans e, n⟩
  · refine byEA (st.r.vars y sl e) fun w l hh => ?_
    refine ⟨w, fw y w l, ?_⟩
    cases sl with
    | sh d' => exact Lay.mono keepK hh
    | own a? d' =>
      (refine byEAAA (hh) fun r e' f g c => ?_; (try clear hh))
      refine byEA (st.nown y a? d' w e l) fun r' e'' nr => ?_
      subst e'; cases e''
      exact ⟨r, rfl, f, g, c.mono keepK fun o eo _ => keep r o nr eo⟩
  · rcases st.tgt with t | ⟨t, c, h1, h2, v, h3⟩
    · exact .inl t
    · exact .inr ⟨t, c, h1, h2, v, cell c v h3⟩
  · refine byEA (st.r.vars y _ e) fun w l' _ => ?_
    exact st.nown y a? d v e ((fw y w l').same l ▸ l')
theorem comp_loopS (O : B.Ok) {A : Around} {I D₀ : Addr} {fp bp : Addr -> Prop} {St : (Addr -> Prop) -> List D -> Heap -> Prop} {StO : (Addr -> Prop) -> List D -> Value -> Heap -> Prop} {px pos : Pos} {iter elt : Expr} {ifs : List Expr} {sc : Scope} {s : Shared} {R : Result -> Shared -> Prop} {ds out : List D} {b led : Bool}
    (rm : Room k A) (eo : EnvOk K env) (i : Inv B A s) (it : Iter B A I fp bp false St StO) (st : CStm B V Wc s.heap env x Γ) (hx0 : Γ.lookup x = none) (hst : St V ds s.heap)
    (hacc : SetAcc b led false s.heap D₀) (wD : Wc D₀) (hDl : D₀ ≠ env.locals) (hDc : env.cells.lookup x ≠ some D₀) (hf : ∀ b, fp b -> ¬ Wc b) (hb : ∀ b, bp b -> ¬ Wc b)
    (c : CompR B k K Γ x ifs elt ds out) (hob : ∀ d, d ∈ out -> d = D.bool b)
    (hR : ∀ s' ys, Inv B A s' -> (∀ b o, s.heap.get? b = some o -> ¬ Wc b -> ¬ fp b -> Kept s'.heap b o) -> CStm B V Wc s'.heap env x Γ -> SetAcc b led ys s'.heap D₀ -> DnOk b out ys -> R (.ok .next) s') :
    codeAny B.M A (.compLoop (.SetComp elt [⟨.Name x px, iter, ifs, 0⟩] sc pos) 0 (.ref I) (.ref D₀) env) R s := by
  have F : CFix B A I D₀ fp bp Wc env x K Γ St StO := ⟨O, eo, it, wD, hDl, hDc, hf, hb, hx0⟩
  have nf : ∀ ys : Bool, (if ys then set1 b led 1 else set0 led).cls ≠ .type "frame" ∧ (if ys then set1 b led 1 else set0 led).cls ≠ .none := fun ys => by cases ys <;> simp [set0, set1]
  have hA : ∀ ys, AccOk V D₀ (SetAcc b led ys · D₀) := fun ys h h' a k1 k2 => k2 _ (nf ys).1 (nf ys).2 a
  refine codeAny_compLoop_testsS (fun n s' => ∃ ds' dn out' ys, n = ds'.length /\ Inv B A s' /\ CS B V Wc fp s.heap env x St (SetAcc b led ys · D₀) Γ ds' s'.heap /\ CompR B k K Γ x ifs elt ds' out' /\ dn ++ out' = out /\ DnOk b dn ys) ?_ ds.length
    ⟨ds, [], out, false, rfl, i, ⟨fun b o e _ _ => .inl e, st, hst, hacc⟩, c, rfl, rfl⟩
  intro n s' hq
  refine byEEEEAAAA hq fun ds' dn out' ys hn i' q c' hq => ?_
  refine byA hq fun hout ls' => ?_
  clear st hst hacc c
  refine c'.use (fun e1 e2 => ?_) (fun d ds₁ e1 ei cr => ?_) (fun d ds₁ vd out₁ e1 e2 ei ee cr => ?_)
  · refine CS.over F (hA ys) i' (e1 ▸ q) fun s₂ i₂ kp₂ cs₂ a₂ => ?_
    exact hR s₂ ys i₂ kp₂ cs₂ a₂ (by rw [<- hout, e2, List.append_nil]; exact ls')
  · refine CS.turn F (hA ys) i' (e1 ▸ q) fun v s₂ i₂ q₂ l₂ => ?_
    refine CS.store F (hA ys) i₂ q₂ l₂ fun s₃ i₃ q₃ => ?_
    refine ei.run A env V s₃ _ _ rm eo i₃ q₃.st.r fun s₄ i₄ k₄ => ?_
    rw [if_neg (by simp)]
    exact ⟨ds₁.length, by rw [hn, e1]; exact Nat.lt_succ_self _, ds₁, dn, out', ys, rfl, i₄, (q₃.pure F (hA ys) k₄).less F, cr, hout, ls'⟩
  · refine CS.turn F (hA ys) i' (e1 ▸ q) fun v s₂ i₂ q₂ l₂ => ?_
    refine CS.store F (hA ys) i₂ q₂ l₂ fun s₃ i₃ q₃ => ?_
    refine ei.run A env V s₃ _ _ rm eo i₃ q₃.st.r fun s₄ i₄ k₄ => ?_
    rw [if_pos rfl]
    have q₄ := q₃.pure F (hA ys) k₄
    refine ee.run A env V s₄ _ _ rm eo i₄ q₄.st.r fun vv s₅ i₅ k₅ l₅ => ?_
    have q₅ := q₄.pure F (hA ys) k₅
    have ev : vv = .bool b := by rw [hob vd (hout ▸ e2 ▸ List.mem_append_right _ (.head _))] at l₅; exact l₅
    rw [ev]
    refine set_addB (prog := B.prog) (w := B.w) q₅.acc fun h' hs' hl' => ?_
    exact ⟨ds₁.length, by rw [hn, e1]; exact Nat.lt_succ_self _, ds₁, dn ++ [vd], out₁, true, rfl, i₅.sameBut O hs' (q₅.st.sub _ wD).2 fun o e => by
      rw [show s₅.heap.get? D₀ = _ from q₅.acc] at e; cases e; cases ys <;> simp [set0, set1],
      q₅.grow F hs' (q₅.st.appS hs' wD ⟨_, q₅.acc, by cases ys <;> rfl⟩ ⟨_, hl', rfl⟩) hl', cr, by rw [List.append_assoc, <- hout, e2]; rfl, by simp [DnOk]⟩
end
open AutoSeq1 (wpAny_loadPart')
theorem entry_set_iter : entryFor table "set.__iter__" = some Builtin.«frozenset.__iter__» :=
  entryFor_alias (id' := "frozenset.__iter__") (by kernel_rfl) rfl (by decide +kernel) (by kernel_rfl)
theorem slot_setiter_next : PySem.Slot "set_iterator" "__next__" "set_iterator.__next__" :=
  .of (owner := "set_iterator") (n := "__next__") (by rw [typeLookup_type, builtinLookup_eq_fast]; kernel_rfl) (by decide +kernel) (by decide +kernel) (by decide +kernel)
    (by first | exact .inl (by decide +kernel) | exact .inr (by decide +kernel)) (by rw [isSubtype_type]; kernel_rfl)
theorem entry_setiter_next : entryFor table "set_iterator.__next__" = some Builtin.«set_iterator.__next__» := entryFor_of_tree (by kernel_rfl)
theorem args_setiter_next_1 (a : Value) : argsOk "set_iterator.__next__" ⟨[a], []⟩ := by unfold argsOk; kernel_rfl
noncomputable def ledOf (w : World) : Bool := !w.params.followText "set-order"
noncomputable def sitObj (a : Addr) (first i : Nat) : Obj := { cls := .type "set_iterator", data := .fields #[rawInt first, rawInt i, .ref a, rawInt 1, rawInt 1] }
noncomputable def nextAt (b : Bool) (w : World) : Nat := if w.params.followText "set-order" then 0 else (if b then 1 else 0) + 1
section
variable {prog : Program} {w : World} {A : Around} {E : Value -> Shared -> Prop} {s : Shared}
theorem fitB (b led : Bool) : (boolTab b led).fits 1 = true := by cases b <;> cases led <;> decide
theorem newSet_led {Q : Value → Shared → Prop} (h : Q (.ref s.heap.objs.size) { s with heap := s.heap.push (set0 (ledOf w)) }) : wpAny (model prog w) A (newSet (.type "set")) Q E s := by
  unfold newSet setsByText
  refine wpAny_bind (wpAny_bind (wpAny_askSetting (wpAny_pure ?_)))
  dsimp only
  simp only [newObj]
  exact wpAny_bind (wpAny_alloc (wpAny_pure h))
theorem setIter1 {a : Addr} {b : Bool} {Q : Value -> Shared -> Prop} (ho : s.heap.get? a = some (set1 b (ledOf w) 1)) (h : Q (.ref s.heap.objs.size) { s with heap := s.heap.push (sitObj a 0 0) }) :
    wpAny (model prog w) A (pyIter (.ref a)) Q E s := by
  have hT : s.TypeIs (.ref a) "set" := ⟨_, ho, rfl⟩
  refine wpAny_pyIter_slot hT F.slot_set_iter (wpAny_call_entry F.slot_set_iter hT entry_set_iter ?_ (F.args_set_iter_1 _))
  unfold Builtin.«frozenset.__iter__»
  refine wpAny_bind (wpAny_pure ?_)
  unfold Builtin.Frozenset.sizeOf
  refine wpAny_bind (wpAny_bind (wpAny_setEntries_of ho rfl (fitB _ _) (wpAny_pure ?_)))
  unfold setDrawn setsByText
  refine wpAny_bind (wpAny_bind (wpAny_setState_of ho rfl (fitB _ _) (wpAny_bind (wpAny_bind (wpAny_askSetting (wpAny_pure ?_))))))
  refine wpAny_pure ?_
  dsimp only
  split
  · rename_i hd
    exfalso
    cases hbt : (model prog w).w.params.followText "set-order"
    · rw [hbt] at hd
      cases b <;> exact absurd (show false = true from hd) (by decide)
    · rw [hbt] at hd
      exact absurd (show false = true from hd) (by decide)
  · refine wpAny_bind (wpAny_pure ?_)
    refine wpAny_bind (wpAny_setEpoch_of ho rfl (fitB _ _) ?_)
    unfold newFields
    refine wpAny_bind (wpAny_newObj_type (wpAny_pure ⟨_, rfl, "set_iterator", _, ⟨_, Heap.get?_push_size _ rfl, rfl⟩, slot_setiter_next.lookup, h⟩))
theorem pick1 {α : Type} (f : Nat -> Nat) (x : α) : pickOrder f #[x] = #[x] := by
  unfold pickOrder
  show pickOrder.go f 1 0 [x] #[] = #[x]
  unfold pickOrder.go
  simp [Nat.mod_one, pickOrder.go]
theorem setNextB {a : Addr} {b : Bool} {slot given : Nat} {r : Option (Value × Nat)} {Q : Option (Value × Nat) -> Shared -> Prop} (ho : s.heap.get? a = some (set1 b (ledOf w) 1))
    (hr : r = if (model prog w).w.params.followText "set-order" = true then ((#[(hb b, Value.bool b)] : Array (Int × Value))[given]?).map (fun e => (e.2, slot)) else
      match (#[(hb b, Value.bool b)] : Array (Int × Value))[SetTable.below (boolTab b (ledOf w)).place slot]?, (boolTab b (ledOf w)).place[SetTable.below (boolTab b (ledOf w)).place slot]? with
      | some (_, x), some j => some (x, j + 1)
      | _, _ => none)
    (h : Q r s) : wpAny (model prog w) A (setNext a slot given 1) Q E s := by
  unfold setNext setsByText
  refine wpAny_bind (wpAny_setState_of ho rfl (fitB _ _) (wpAny_bind (wpAny_bind (wpAny_askSetting (wpAny_pure ?_)))))
  dsimp only
  cases hbt : (model prog w).w.params.followText "set-order"
  · rw [hbt] at hr
    simp only [Bool.false_eq_true, if_false] at hr ⊢
    rw [hr] at h
    split
    · rename_i hd
      cases b <;> exact absurd (show false = true from hd) (by decide)
    · refine wpAny_bind (show wpAny _ _ (if (!ledOf w && _) = true then _ else pure ()) _ _ _ from ?_)
      rw [if_neg (by
        unfold ledOf
        rw [show w.params.followText "set-order" = false from hbt]
        simp)]
      exact wpAny_pure (wpAny_pure h)
  · rw [hbt] at hr
    simp only [if_true] at hr ⊢
    rw [hr] at h
    rw [if_neg (by decide)]
    unfold setWalk setsByText
    refine wpAny_bind (wpAny_bind (wpAny_setState_of ho rfl (fitB _ _) (wpAny_bind (wpAny_bind (wpAny_askSetting (wpAny_pure ?_))))))
    dsimp only
    rw [hbt]
    simp only [if_true]
    refine wpAny_bind (wpAny_askSetting (wpAny_pure (wpAny_pure ?_)))
    rw [pick1]
    exact h
theorem setNext0 {I a : Addr} {b : Bool} {Q : Option Value -> Shared -> Prop} (hI : s.heap.get? I = some (sitObj a 0 0)) (ho : s.heap.get? a = some (set1 b (ledOf w) 1)) 
    (h : ∀ h', Heap.SameBut I s.heap h' -> h'.get? I = some (sitObj a (nextAt b w) 1) -> Q (some (.bool b)) { s with heap := h' }) : wpAny (model prog w) A (pyNext (.ref I)) Q E s := by
  have hT : s.TypeIs (.ref I) "set_iterator" := ⟨_, hI, rfl⟩
  unfold pyNext
  refine wpAny_bind (wpAny_attempt (wpAny_callSpecial?_slot (name := Str.ofString "__next__") hT slot_setiter_next
    (wpAny_call_entry slot_setiter_next hT entry_setiter_next ?_ (args_setiter_next_1 _))))
  unfold Builtin.«set_iterator.__next__»
  refine wpAny_bind (wpAny_pure ?_)
  refine wpAny_bind (wpAny_fieldsOf hI rfl ?_)
  dsimp only [sitObj, rawInt]
  refine wpAny_bind (wpAny_setEntries_of ho rfl (fitB _ _) ?_)
  rw [if_neg (by simp)]
  refine wpAny_bind (setNextB (r := some (.bool b, nextAt b w)) ho ?_ ?_)
  · unfold nextAt
    show _ = if w.params.followText "set-order" = true then _ else _
    cases w.params.followText "set-order" <;> cases b <;> cases (ledOf w) <;> rfl
  · refine wpAny_bind (wpAny_setField hI rfl (by simp) ?_)
    have h1 : (s.heap.update I (Obj.mapFields (·.setIfInBounds 0 (.int (nextAt b w) 0)))).get? I = some (sitObj a (nextAt b w) 0) := by
      rw [Heap.get?_update_self _ hI (by rfl)]; rfl
    refine wpAny_bind (wpAny_setField (s := { s with heap := s.heap.update I (Obj.mapFields (·.setIfInBounds 0 (.int (nextAt b w) 0))) }) h1 rfl (by simp) ?_)
    refine wpAny_pure ⟨_, rfl, wpAny_pure (h _ ((Heap.SameBut.update ..).trans (Heap.SameBut.update ..)) ?_)⟩
    rw [Heap.get?_update_self _ h1 (by rfl)]; rfl
theorem setNext1 {I a : Addr} {b : Bool} {Q : Option Value -> Shared -> Prop} (hh : A.handled = none) (hI : s.heap.get? I = some (sitObj a (nextAt b w) 1)) (ho : s.heap.get? a = some (set1 b (ledOf w) 1)) 
    (h : ∀ h', Heap.ExtBut I s.heap h' -> Q none { s with heap := h' }) : wpAny (model prog w) A (pyNext (.ref I)) Q E s := by
  have hT : s.TypeIs (.ref I) "set_iterator" := ⟨_, hI, rfl⟩
  unfold pyNext
  refine wpAny_bind (wpAny_attempt (wpAny_callSpecial?_slot (name := Str.ofString "__next__") hT slot_setiter_next
    (wpAny_call_entry slot_setiter_next hT entry_setiter_next ?_ (args_setiter_next_1 _))))
  unfold Builtin.«set_iterator.__next__»
  refine wpAny_bind (wpAny_pure ?_)
  refine wpAny_bind (wpAny_fieldsOf hI rfl ?_)
  dsimp only [sitObj, rawInt]
  refine wpAny_bind (wpAny_setEntries_of ho rfl (fitB _ _) ?_)
  rw [if_neg (by simp)]
  refine wpAny_bind (setNextB (r := none) ho ?_ ?_)
  · unfold nextAt
    show _ = if w.params.followText "set-order" = true then _ else _
    cases w.params.followText "set-order" <;> cases b <;> cases (ledOf w) <;> rfl
  · refine wpAny_bind (wpAny_setField hI rfl (by simp) ?_)
    show wpAny _ _ (newExc (.type "StopIteration") [] >>= _) _ _ _
    refine wpAny_bind ?_
    simp only [newExc, newTuple]
    refine wpAny_bind (wpAny_newObj_type ?_ (by size_fits))
    refine wpAny_bind (m := firstArgMember _ _) (wpAny_of_eq (a := Value.none) (by first | rfl | (simp only [firstArgMember]; rfl)) ?_)
    refine wpAny_newObj_type ?_ (by size_fits)
    simp only [raiseNew]
    refine wpAny_bind (wpAny_handled ?_)
    first | rw [show A.in1.handled = none from hh] | rw [hh]
    refine wpAny_bind (wpAny_pure (wpAny_throw ?_))
    refine wpAny_bind (wpAny_isInstance (T := "StopIteration") (b := true) ⟨_, Heap.get?_push_size _ rfl, rfl⟩ isSubtype_stop ?_)
    exact wpAny_pure (h _ (((Heap.SameBut.extBut (Heap.SameBut.update ..)).push _).push _))
theorem unpack_set1 {a : Addr} {b : Bool} {Q : List Value -> Shared -> Prop} (hh : A.handled = none) (ho : s.heap.get? a = some (set1 b (ledOf w) 1))
    (h : ∀ h', Heap.ExtBut s.heap.objs.size s.heap h' -> Q [.bool b] { s with heap := h' }) : wpAny (model prog w) A (unpackItems (.ref a) 1 none) Q E s := by
  have hT : s.TypeIs (.ref a) "set" := ⟨_, ho, rfl⟩
  have hne : a ≠ s.heap.objs.size := Nat.ne_of_lt (Heap.lt_size ho)
  unfold unpackItems
  refine wpAny_bind ?_
  unfold notIterableAtAll
  refine wpAny_bind (wpAny_specialOf hT F.slot_set_iter.lookup ?_)
  refine wpAny_pure ?_
  simp only [Bool.false_eq_true, if_false]
  refine wpAny_bind (wpAny_holding (setIter1 ho ?_))
  have hI : (s.heap.push (sitObj a 0 0)).get? s.heap.objs.size = some (sitObj a 0 0) := Heap.get?_push_size _ rfl
  have ho₁ : (s.heap.push (sitObj a 0 0)).get? a = some (set1 b (ledOf w) 1) := Heap.get?_push_of_some _ ho
  refine wpAny_bind (wpAny_holding ?_)
  show wpAny _ _ (pyNext (.ref s.heap.objs.size) >>= _) _ E _
  refine wpAny_bind (setNext0 (s := { s with heap := s.heap.push (sitObj a 0 0) }) hI ho₁ fun h₁ hs₁ hI₁ => ?_)
  refine wpAny_bind (wpAny_holding (wpAny_pure ?_))
  refine wpAny_pure ?_
  rw [if_neg (by simp)]
  have ho₂ : h₁.get? a = some (set1 b (ledOf w) 1) := (hs₁.2 a hne).trans ho₁
  refine wpAny_bind (wpAny_holding (setNext1 (s := { s with heap := h₁ }) hh hI₁ ho₂ fun h₂ he₂ => ?_))
  simp only [Option.isSome_none, Bool.false_eq_true, if_false]
  exact wpAny_pure (h h₂ fun c o hc e => he₂ c o hc ((hs₁.2 c hc).trans (Heap.get?_push_of_some _ e)))
end
section
variable {B : Base} {k : Nat} {K : Kinds} {Γ Γ' : G} {V W : Addr -> Prop} {h h' : Heap} {env : Env} {x : Str}
theorem comp_coreS (O : B.Ok) {px pos : Pos} {iter elt : Expr} {ifs : List Expr} {sc : Scope} {ds out : List D} {cx b : Bool} {use : Option (Value -> Sem Unit)} {A : Around} {s : Shared} {Q : Value -> Shared -> Prop} {E : Value -> Shared -> Prop}
    (xi : EvIB B k K Γ iter ds) (sk : ScOk K Γ sc x cx) (c : CompR B k (relK K sc) (cap Γ sc.names) x ifs elt ds out) (hob : ∀ d, d ∈ out -> d = D.bool b) (hne : out ≠ []) (hs : ∀ env v, foldedSetIterable iter env v = pure v)
    (rm : Room k A) (eo : EnvOk K env) (i : Inv B A s) (g : EnvR B V s.heap env Γ)
    (hP : ∀ D₀ C s', Inv B A s' → Kp s.heap s'.heap → s.heap.get? D₀ = none → s.heap.get? C = none → C ≠ D₀ → B.n₀ ≤ D₀ → B.n₀ ≤ C → (∃ o es ep, s'.heap.get? C = some o ∧ o.cls = .type "dict" ∧ o.data = .dict es ep ∧ StrKeys es) →
      SetAcc b (ledOf B.w) true s'.heap D₀ -> compPost B.M A E use Q (.ref D₀) C (.ok .next) s') :
    wpAny B.M A (comprehension (.SetComp elt [⟨.Name x px, iter, ifs, 0⟩] sc pos) sc env (firstIterPos [⟨.Name x px, iter, ifs, 0⟩] pos) (newSet (.type "set")) false (eval iter env) use) Q E s := by
  have hcl : closureFor sc env = pure (closL (cellAdr env) sc.names []) := closureFor_eq fun p hp hf => by
    refine byAA (sk.frees p hp hf) fun _ h2 h3 => ?_
    refine byE (Option.isSome_iff_exists.mp h2) fun sl e => ?_
    refine byEA (g.vars _ _ e) fun v l _ => ?_
    rcases l with ⟨q, _⟩ | ⟨_, c, q, _⟩
    · rw [eo.kind] at q; rcases h3 with h3 | h3 <;> (rw [q] at h3; cases h3)
    · rw [q]; rfl
  refine wpAny_comprehension_free rfl (hs env) hcl sk.kind sk.locs (xi.run A env V s _ E rm eo i g fun I fp bp St StO s₂ i₂ k₂ it st₂ nf => ?_)
  refine newSet_led (prog := B.prog) (w := B.w) ?_
  have kD : ∀ b o, s₂.heap.get? b = some o -> (s₂.heap.push (set0 (ledOf B.w))).get? b = some o := fun b o e => Heap.get?_push_of_some _ e
  refine comp_frame O sk eo (g.kp k₂) (s := { s₂ with heap := s₂.heap.push (set0 (ledOf B.w)) }) (i₂.keep O (tk := s₂.toks) kD) kD (none_size (Nat.le_refl _)) ⟨_, Heap.get?_push_size _ rfl, .inr (.inr (.inr rfl))⟩ (O.size _ i₂.good)
    fun C cells s₄ Wc i₄ k₄ eo₄ wn wD hDC hcD wt wn' wC cs => ?_
  have kk : ∀ b o, s₂.heap.get? b = some o -> s₄.heap.get? b = some o := fun b o e => k₄ b o (kD b o e)
  have nz : ∀ b, s₂.heap.get? b = none -> s.heap.get? b = none := fun b e => by
    cases q : s.heap.get? b with
    | none => rfl
    | some o => refine byE ((k₂ b o q).ex) fun o' e' => ?_; rw [e] at e'; cases e'
  have st₄ : St (fun b => V b \/ Wc b) ds s₄.heap := it.frame _ _ _ _ _ st₂ (fun b q => q.imp id fun w => wn b w) fun b o e _ => kk b o e
  have fpw : ∀ b, fp b -> ¬ Wc b := fun b f w => by
    refine byEA (it.there _ _ _ b st₂ f) fun o e _ => ?_
    rw [wn b w] at e; cases e
  have bpw : ∀ b, bp b -> ¬ Wc b := fun b f w => by
    refine byEA (it.data _ _ _ b st₂ f) fun o e _ => ?_
    rw [wn b w] at e; cases e
  have hD : SetAcc b (ledOf B.w) false s₄.heap s₂.heap.objs.size := k₄ _ _ (Heap.get?_push_size _ rfl)
  have loop := comp_loopS (px := px) (pos := pos) (iter := iter) (sc := sc) (R := compPost B.M A E use Q (.ref s₂.heap.objs.size) C) O rm eo₄ i₄ it cs (cap_none sk) st₄ hD wD hDC hcD fpw bpw c hob fun s' ys i' kp' cs' hl' ls' => by
    refine hP s₂.heap.objs.size C s' i' (fun b o e => ?_) (nz _ (none_size (Nat.le_refl _))) (nz _ (wn _ wC)) (Ne.symm hDC) (O.size _ i₂.good) (cs'.sub _ wC).2 cs'.loc.2 (by
      have : ys = true := by rw [ls']; cases out with | nil => exact absurd rfl hne | cons _ _ => rfl
      rw [<- this]; exact hl')
    · have h1 : ∀ b o, s₂.heap.get? b = some o -> Kept s'.heap b o \/ fp b := fun b o e => by
        by_cases f : fp b
        · exact .inr f
        · exact .inl (kp' b o (kk b o e) (fun w => by rw [wn b w] at e; cases e) f)
      have nfp : ¬ fp b := fun f => by rw [nf b f] at e; cases e
      rcases k₂ b o e with q | ⟨cl, sl, q⟩ | ⟨cl, o', q⟩
      · exact (h1 b o q).resolve_right nfp
      · rcases (h1 b _ q).resolve_right nfp with z | ⟨_, sl', z⟩ | ⟨z, _⟩
        · exact .inr (.inl ⟨cl, sl, z⟩)
        · exact .inr (.inl ⟨cl, sl', z⟩)
        · exact absurd (cl.symm.trans z) (by simp)
      · exact .inr (.inr ⟨cl, ((h1 b _ q).resolve_right nfp).ex⟩)
  exact codeAny_compStart_set loop (it.self _ _ _ _ _ st₄ loop)
theorem comp_set (O : B.Ok) {px pos : Pos} {iter elt : Expr} {ifs : List Expr} {sc : Scope} {ds out : List D} {cx b : Bool} {Γc : G}
    (xi : EvIB B k K Γ iter ds) (sk : ScOk K Γ sc x cx) (hΓ : cap Γ sc.names = Γc) (c : CompR B k (relK K sc) Γc x ifs elt ds out) (hob : ∀ d, d ∈ out -> d = D.bool b) (hne : out ≠ []) (hs : ∀ env v, foldedSetIterable iter env v = pure v)
    (A : Around) (env : Env) (V : Addr -> Prop) (s : Shared) (Q : Value -> Shared -> Prop) (E : Value -> Shared -> Prop) (rm : Room k A) (eo : EnvOk K env) (i : Inv B A s) (g : EnvR B V s.heap env Γ)
    (h : ∀ a s', Inv B A s' -> Kp s.heap s'.heap -> s.heap.get? a = none -> B.n₀ <= a -> SetAcc b (ledOf B.w) true s'.heap a -> Q (.ref a) s') :
    wpAny B.M A (eval (.SetComp elt [⟨.Name x px, iter, ifs, 0⟩] sc pos) env) Q E s := by
  subst hΓ
  rw [arm_eval_SetComp]
  show wpAny B.M A (comprehension (.SetComp elt [⟨.Name x px, iter, ifs, 0⟩] sc pos) sc env (firstIterPos [⟨.Name x px, iter, ifs, 0⟩] pos) (newSet (.type "set")) false (eval iter env) none) Q E s
  refine comp_coreS O xi sk c hob hne hs rm eo i g fun D₀ C s' i' kp nD nC hne lo loC hC cD => ?_
  (refine byEE (hC) fun o es hr1 => ?_; (try clear hC); refine byEAAA (hr1) fun ep hoC hcC hdC hkC => ?_; (try clear hr1))
  refine ⟨nsFind es, ⟨o, es, ep, hoC, hdC, hkC, fun _ => rfl⟩, fun h'' hsm => ?_⟩
  exact h D₀ { s' with heap := h'' } (i'.sameBut O (tk := s'.toks) hsm loC fun o' e => by rw [hoC] at e; cases e; rw [hcC]; simp) (kp.but hsm nC) nD lo ((hsm.2 D₀ (Ne.symm hne)).trans cD)
theorem Ex1.unpackSet (O : B.Ok) {y : Str} {py pt p px pos : Pos} {n : Nat} {iter elt : Expr} {ifs : List Expr} {sc : Scope} {ds out : List D} {cx b : Bool} {Γc : G}
    (xi : EvIB B (k + 1) K Γ iter ds) (sk : ScOk K Γ sc x cx) (hΓ : cap Γ sc.names = Γc) (c : CompR B (k + 1) (relK K sc) Γc x ifs elt ds out) (hob : ∀ d, d ∈ out -> d = D.bool b) (hne : out ≠ []) (hy : K y = some .local \/ K y = some .cell) (hs : ∀ env v, foldedSetIterable iter env v = pure v := by intro _ _; rfl)
    (hsw : ∀ env, swapsWithSole [.Tuple [.Name y py] n pt] (.SetComp elt [⟨.Name x px, iter, ifs, 0⟩] sc pos) p.line env = pure false := by intro _; rfl) (hst : ∀ env, swappedStores [.Tuple [.Name y py] n pt] (.SetComp elt [⟨.Name x px, iter, ifs, 0⟩] sc pos) env = pure none := by intro _; rfl) :
    Ex1 B (k + 1) K Γ (.Assign [.Tuple [.Name y py] n pt] (.SetComp elt [⟨.Name x px, iter, ifs, 0⟩] sc pos) p) .next (put Γ y (.sh (.bool b))) := .mk fun A env V₀ W s Q E rm eo i st h => by
  refine wpAny_Assign_stores (comp_set O xi sk hΓ c hob hne hs A env _ s _ E rm eo i st.r fun a s₁ i₁ k₁ n₁ lo ho => ?_) (hsw env) (hst env)
  rw [assignEach_cons rfl]
  show wpAny _ _ (PySem.assign (.Tuple [.Name y py] n pt) env (.ref a)) _ E s₁
  rw [arm_assign_Tuple]
  refine wpAny_bind (wpAny_standAt ?_)
  unfold unpack
  refine wpAny_bind (wpAny_holding (unpack_set1 (prog := B.prog) (w := B.w) (rm.handled (Nat.succ_pos _)) ho fun h' hx => ?_))
  have kk : Kp s₁.heap h' := .of (keep_ext hx (Nat.le_refl _))
  have st₁ := (st.kp k₁).kp kk
  refine (AsgL.cons (Γ₁ := put Γ y (.sh (.bool b))) (Asg.name O hy) AsgL.nil (by rfl)).run A env V₀ W { s₁ with heap := h' } [.bool b] _ E rm eo (i₁.keep O (tk := s₁.toks) (keep_ext hx (Nat.le_refl _))) st₁ (by simp only [Lays, Lay]; exact ⟨_, [], rfl, rfl, rfl⟩) fun s₂ i₂ d₂ e₂ st₂ => ?_
  exact h .next s₂ W i₂ ((k₁.trans kk).dom.trans d₂) ((Ext.of_kp (k₁.trans kk)).trans e₂ (k₁.trans kk).dom) st₂ rfl
end
section
variable {B : Base} {k : Nat} {K : Kinds} {Γ Γ' : G} {V V₀ W : Addr -> Prop} {h h' : Heap} {env : Env} {x : Str}
theorem Ex1.try_ {body : List Stmt} {h₀ : ExceptHandler} {hs : List ExceptHandler} {p : Pos} {o : Out} (y : Ex B k K Γ body o Γ') : Ex1 B k K Γ (.Try body (h₀ :: hs) [] [] p) o Γ' := .mk fun A env V₀ W s Q E rm eo i st h => by
  refine wpAny_Try_except (prog := B.prog) (w := B.w) (y.run A env V₀ W s _ _ rm eo i st fun fl s' W' i' d' e' st' ou => ?_)
  have hh := h fl s' W' i' d' e' st' ou
  cases o with
  | next => obtain rfl : fl = .next := ou; exact wpAny_execs_nil hh
  | brk => obtain rfl : fl = .brk := ou; exact hh
  | ret d => (refine byEA (ou) fun v hq1 _ => ?_; (try clear ou); subst hq1); exact hh
end
section
variable {B : Base} {k : Nat} {K : Kinds} {Γ Γ' : G}
theorem EvB.own {x : Str} {p : Pos} {a? : Option Addr} {d : D} (hx : Γ.lookup x = some (.own a? d)) (h1 : (x == ("__debug__" : Str)) = false := by decide) (h2 : (x == ("__classdict__" : Str)) = false := by decide) : EvB B k K Γ (.Name x p) d := EvB.name (sl := .own a? d) hx h1 h2
theorem EvB.sh {x : Str} {p : Pos} {d : D} (hx : Γ.lookup x = some (.sh d)) (h1 : (x == ("__debug__" : Str)) = false := by decide) (h2 : (x == ("__classdict__" : Str)) = false := by decide) : EvB B k K Γ (.Name x p) d := (Ev.name hx h1 h2).b
theorem Binds.star {name a p : Str} {params : Arguments} {body : List Stmt} {scope : Scope} {d : D} {ds : List D} (O : B.Ok)
    (hb : ∀ pm cd doc v vs, bindArgs (docDef name params body scope pm cd doc) ⟨v :: vs, []⟩ = (fun t => [(a, v), (p, t)]) <$> newTuple vs) (hz : ds.length <= sizeLine := by first | decide | (simp only [List.length]; decide) | simp) :
    Binds B name params body scope (d :: ds) [a, p] [d, .tup ds] := fun pm cd doc A V s vs Q E i dm ls h => by
  simp only [Lays] at ls
  (refine byEEA (ls) fun v r hq1 hr2 => ?_; (try clear ls); subst hq1; refine byA (hr2) fun lv lr => ?_; (try clear hr2))
  rw [hb, map_eq_pure_bind]
  refine wpAny_bind (wpAny_newTuple ?_ (by rw [lr.length]; exact hz))
  have kp : ∀ b o, s.heap.get? b = some o → (s.heap.push { cls := .type "tuple", data := .seq r.toArray }).get? b = some o := fun b o e => Heap.get?_push_of_some _ e
  refine wpAny_pure (h [v, .ref s.heap.objs.size] { s with heap := s.heap.push { cls := .type "tuple", data := .seq r.toArray } } (i.keep O (tk := s.toks) kp) (.of kp) ?_)
  simp only [Lays, Lay]
  refine ⟨_, _, rfl, lv.kp (.of kp), _, _, rfl, ⟨_, rfl, fun q => ?_, r.toArray, ⟨_, Heap.get?_push_size _ rfl⟩, ?_⟩, rfl⟩
  · refine byEA (dm _ q) fun o e _ => ?_
    exact absurd (Heap.lt_size e) (Nat.lt_irrefl _)
  · exact lr.kp (.of kp)
end
section
variable {B : Base} {k : Nat} {K : Kinds} {Γ Γ' : G}
theorem BinR.mul_str {a : Str} {n : Int} (hok : MulOk a n) : BinR B k .Mult (.str a) (.int n) (.str (Txt.mul a n)) := fun A V s v₁ v₂ Q E r i dm x y h => by
  (refine byE (x.asStr) fun t hq1 => ?_; subst hq1); (refine byE (y.asInt) fun u hq2 => ?_; subst hq2)
  exact PySem.SB.mul hok (fun t' tk => h _ _ (i.tok _) (.refl _) ⟨_, rfl⟩)
theorem Ev.ite_t {t a b : Expr} {p : Pos} {d : D} (x : EvT B k K Γ t true) (y : Ev B k K Γ a d) : Ev B k K Γ (.IfExp t a b p) d := Ev.ite x (fun _ => y) (fun h => nomatch h)
theorem BltF.listL (O : B.Ok) {l : List D} (hz : l.length ≤ sizeLine) : BltF B k (.type "list") [.list l] (.list l) := fun A V s vs Q E rm i dm ls h => by
  (refine byEA (ls.one) fun v hq3 x => ?_; subst hq3)
  (refine byEEA (x.asList) fun a it hq4 hr5 => ?_; subst hq4; refine byA (hr5) fun p q => ?_; (try clear hr5))
  (refine byE (p) fun n e => ?_; (try clear p))
  refine call_list_seq a (.inl rfl) e rfl rfl (fun h' c' kp at' => ?_) (by rw [show it.size = l.length by rw [<- q.length]; simp]; exact hz)
  refine h _ _ (i.keep O kp) (.of kp) (none_size (Nat.le_refl _)) (O.size _ i.good) ⟨it, ⟨c', at'⟩, ?_⟩
  exact q.mono fun b o nb e _ => ⟨fun q => q.elim nb (fun z => by rw [z, none_size (Nat.le_refl _)] at e; cases e), kp b o e⟩
theorem SetR.listI (O : B.Ok) {l : List D} {i : Int} {d : D} (h0 : 0 <= i) (hn : i.toNat < l.length) (hz : l.length <= sizeLine) : SetR B k (.list l) (.int i) d (.list (l.set i.toNat d)) := by
  have e : i = ((i.toNat : Nat) : Int) := by omega
  have := SetR.list (B := B) (k := k) O (l := l) (n := i.toNat) (d := d) hn hz
  rw [<- e] at this
  exact this
theorem Ev.negc {i : Int} {c : Nat} {p p' : Pos} : Ev B k K Γ (.UnaryOp .USub (.Constant (.int i) c p) p') (.int (-i)) := .mk fun A env V s Q E rm eo I g h =>
  wpAny_UnaryOp ((Ev.cint : Ev B k K Γ (.Constant (.int i) c p) (.int i)).run A env V s _ E rm eo I g fun v₂ s₂ i₂ k₂ l₂ => by
    simp only [Lay] at l₂
    (refine byE (l₂) fun t hq6 => ?_; (try clear l₂); subst hq6)
    exact PyProof.Rows.neg_int (h _ _ (i₂.tok _) k₂ ⟨_, rfl⟩))
theorem SubR.last {l : List D} {d : D} : SubR B k (.list (l ++ [d])) (.int (-1)) d :=
  SubR.listNeg (by decide) (by simp only [List.length_append, List.length_cons, List.length_nil]; omega) (by decide) (by
    rw [show ((-1 : Int) + ((l ++ [d]).length : Nat)).toNat = l.length by simp only [List.length_append, List.length_cons, List.length_nil]; omega]
    simp)
end
section
variable {B : Base} {k : Nat} {K : Kinds} {Γ Γ' : G}
noncomputable def scOkB (K : Kinds) (Γ : G) (sc : Scope) : Bool :=
  sc.names.all fun p => (p.2 != .local || sc.names.lookup p.1 == some .local) && (p.2 != .free || (sc.names.lookup p.1 == some .free && (Γ.lookup p.1).isSome && (K p.1 == some .cell || K p.1 == some .free)))
theorem ScOk.of {sc : Scope} {x : Str} {cx : Bool} (h : scOkB K Γ sc = true) (kind : sc.kind = .function) (tgt : sc.names.lookup x = some (if cx then .cell else .local))
    (cells : ∀ n acc, cellsFrom n sc.names acc = if cx then (x, n) :: acc else acc) (push : ∀ h, pushCells h sc.names = if cx then h.push { cls := .type "cell", data := .cell none } else h) : ScOk K Γ sc x cx where
  kind := kind
  tgt := tgt
  cells := cells
  push := push
  locs p m e := by
    have := List.all_eq_true.mp h p m
    rw [e] at this
    simpa using this
  frees p m e := by
    have := List.all_eq_true.mp h p m
    rw [e] at this
    simp only [bne_self_eq_false, Bool.false_or, Bool.and_eq_true, Bool.or_eq_true, beq_iff_eq] at this
    exact ⟨this.2.1.1, this.2.1.2, this.2.2⟩
theorem CompR.of {α : Type} {x : Str} {ifs : List Expr} {elt : Expr} (inj : α -> D) (p : α -> Bool) (f : α -> D) : ∀ (l : List α) (h : ∀ a, a ∈ l -> EvIfs B k K (put Γ x (.sh (inj a))) ifs (p a)) (h2 : ∀ a, a ∈ l -> p a = true -> Ev B k K (put Γ x (.sh (inj a))) elt (f a)),
    CompR B k K Γ x ifs elt (l.map inj) ((l.filter p).map f)
  | [], _, _ => .nil
  | a :: l, h, h2 => by
    have r := CompR.of inj p f l (fun b m => h b (.tail _ m)) (fun b m => h2 b (.tail _ m))
    cases e : p a
    · rw [List.filter_cons_of_neg (by simp [e])]
      exact .skip (e ▸ h a (.head _)) r
    · rw [List.filter_cons_of_pos e]
      exact .take (e ▸ h a (.head _)) (h2 a (.head _) e) r
theorem CompR.map {α : Type} {x : Str} {elt : Expr} (inj : α -> D) (f : α -> D) (l : List α) (h2 : ∀ a, a ∈ l -> Ev B k K (put Γ x (.sh (inj a))) elt (f a)) :
    CompR B k K Γ x [] elt (l.map inj) (l.map f) := by
  have := CompR.of (B := B) (k := k) (K := K) (Γ := Γ) (x := x) (ifs := []) (elt := elt) inj (fun _ => true) f l (fun _ _ => .nil) (fun a m _ => h2 a m)
  rw [List.filter_eq_self.mpr (fun _ _ => rfl)] at this
  exact this
theorem swapsC {elt : Expr} {gens : List Comprehension} {sc : Scope} {pos py : Pos} {y : Str} {line : Nat} (hk : K y = some .local) (hl : (py.line == pos.line) = true) (hn : (sc.names.any fun (n, k) => n == y && (k == .local || k == .cell)) = false) (env : Env) (eo : EnvOk K env) :
    swapsWith (.ListComp elt gens sc pos) (some (.Name y py)) line env = pure true := by
  have h1 : (env.blockKind == .function) = true := by
    have := eo.fn
    simp [Env.blockKind, this]
  have h2 : (env.kindOf y == some .local) = true := by rw [eo.kind, hk]; rfl
  show (pure (env.blockKind == .function && env.kindOf y == some .local && py.line == pos.line && !(sc.names.any fun (n, k) => n == y && (k == .local || k == .cell))) : PySem.Sem Bool) = pure true
  rw [h1, h2, hl, hn]
  rfl
theorem EvIB.tuple (O : B.Ok) {e : Expr} {ds : List D} (x : Ev B (k + 1) K Γ e (.tup ds)) : EvIB B (k + 1) K Γ e ds := (EvI.tuple O x).b
theorem weakApp {Γ₂ X : G} {y : Str} {s : Slot} (h : Γ₂.lookup y = some s) : (Γ₂ ++ X).lookup y = some s := by
  rw [List.lookup_append, h]; rfl
theorem Loop.step' {t : Expr} {body : List Stmt} {X X₁ X₂ X₃ : G} {d : D} {ds : List D} {o : Out} (l : Loop B k K t body X₂ ds o X₃) (a : Asg B k K X t d X₁) (b : Ex B k K X₁ body .next X₂) : Loop B k K t body X (d :: ds) o X₃ := .step a b l
end
theorem ltS_irrefl (x : Str) : ltS x x = false := by simp [ltS, List.lt_irrefl]
theorem Str.cps_inj {x y : Str} (h : x.cps.toList = y.cps.toList) : x = y := by
  cases x; cases y; simpa using h
theorem ltS_tri {x y : Str} (h : x ≠ y) : ltS x y = true \/ ltS y x = true := by
  by_cases a : x.cps.toList < y.cps.toList
  · exact .inl (by simp [ltS, a])
  · by_cases b : y.cps.toList < x.cps.toList
    · exact .inr (by simp [ltS, b])
    · exact absurd (Str.cps_inj (List.le_antisymm (List.not_lt.mp b) (List.not_lt.mp a))) h
theorem ltS_trans {x y z : Str} (h : ltS x y = true) (h2 : ltS y z = true) : ltS x z = true := by
  simp only [ltS, decide_eq_true_eq] at *
  exact List.lt_trans h h2
theorem ltS_asymm {x y : Str} (h : ltS x y = true) : ltS y x = false := by
  cases e : ltS y x
  · rfl
  · have := ltS_trans h e; rw [ltS_irrefl] at this; cases this
theorem ltL_irrefl : ∀ l, ltL l l = false
  | [] => rfl
  | x :: l => by simp [ltL, ltL_irrefl l]
theorem ltL_cotrans : ∀ {a c : List Str} (b : List Str), ltL a c = true -> ltL a b = true \/ ltL b c = true
  | [], [], b, h => by cases h
  | _ :: _, [], b, h => by cases h
  | [], z :: r, [], h => .inr h
  | [], z :: r, y :: m, h => .inl rfl
  | x :: l, z :: r, [], h => .inr rfl
  | x :: l, z :: r, y :: m, h => by
    by_cases xz : x = z
    · subst xz
      simp only [ltL, if_true] at h
      by_cases yx : y = x
      · subst yx
        simpa [ltL] using ltL_cotrans m h
      · have yx' : ¬ x = y := fun e => yx e.symm
        simpa [ltL, yx, yx'] using ltS_tri yx'
    · have h' : ltS x z = true := by simpa [ltL, xz] using h
      by_cases yx : y = x
      · subst yx
        exact .inr (by simpa [ltL, xz] using h')
      · have yx' : ¬ x = y := fun e => yx e.symm
        by_cases yz : y = z
        · subst yz
          exact .inl (by simpa [ltL, xz] using h')
        · rcases ltS_tri yx' with a | a
          · exact .inl (by simpa [ltL, yx'] using a)
          · exact .inr (by simpa [ltL, yz] using ltS_trans a h')
theorem ltL_asymm : ∀ {a b : List Str}, ltL a b = true -> ltL b a = false
  | [], [], h => by cases h
  | [], _ :: _, h => rfl
  | _ :: _, [], h => by cases h
  | x :: l, y :: r, h => by
    by_cases e : x = y
    · subst e
      simp only [ltL, if_true] at *
      exact ltL_asymm h
    · have e' : ¬ y = x := fun q => e q.symm
      simp only [ltL, e, e', if_false] at *
      exact ltS_asymm h
theorem bestI_best (bt : Nat -> Nat -> Bool) (ir : ∀ i, bt i i = false) (as : ∀ i j, bt i j = true -> bt j i = false) (co : ∀ i j k, bt i k = true -> bt i j = true \/ bt j k = true) : ∀ n i, i <= n -> bt i (bestI bt n) = false
  | 0, i, h => by
    obtain rfl : i = 0 := by omega
    exact ir 0
  | n + 1, i, h => by
    unfold bestI
    have IH := bestI_best bt ir as co n
    split
    · rename_i hb
      by_cases e : i = n + 1
      · subst e; exact ir _
      · cases hc : bt i (n + 1)
        · rfl
        · rcases co i (bestI bt n) (n + 1) hc with q | q
          · rw [IH i (by omega)] at q; cases q
          · rw [as _ _ hb] at q; cases q
    · rename_i hb
      by_cases e : i = n + 1
      · subst e; simpa using hb
      · exact IH i (by omega)
theorem minL_le {l : List (List Str)} {x : List Str} (h : x ∈ l) : ltL x (minL l) = false := by
  obtain ⟨i, hi, rfl⟩ := List.mem_iff_getElem.mp h
  have := bestI_best (fun i j => ltL (l.getD i []) (l.getD j [])) (fun _ => ltL_irrefl _) (fun _ _ => ltL_asymm) (fun i j k h => ltL_cotrans _ h) (l.length - 1) i (by omega)
  simpa [minL, List.getD_eq_getElem?_getD, hi] using this
theorem maxL_ge {l : List (List Str)} {x : List Str} (h : x ∈ l) : ltL (maxL l) x = false := by
  obtain ⟨i, hi, rfl⟩ := List.mem_iff_getElem.mp h
  have := bestI_best (fun i j => ltL (l.getD j []) (l.getD i [])) (fun _ => ltL_irrefl _) (fun _ _ => ltL_asymm) (fun i j k h => (ltL_cotrans (l.getD j []) h).symm) (l.length - 1) i (by omega)
  simpa [maxL, List.getD_eq_getElem?_getD, hi] using this
theorem minL_mem {l : List (List Str)} (h : l ≠ []) : minL l ∈ l := by
  have h0 := List.length_pos_iff.mpr h
  have := bestI_le (fun i j => ltL (l.getD i []) (l.getD j [])) (l.length - 1)
  unfold minL
  rw [List.getD_eq_getElem?_getD, List.getElem?_eq_getElem (by omega)]
  exact List.getElem_mem _
theorem maxL_mem {l : List (List Str)} (h : l ≠ []) : maxL l ∈ l := by
  have h0 := List.length_pos_iff.mpr h
  have := bestI_le (fun i j => ltL (l.getD j []) (l.getD i [])) (l.length - 1)
  unfold maxL
  rw [List.getD_eq_getElem?_getD, List.getElem?_eq_getElem (by omega)]
  exact List.getElem_mem _
theorem min_le_max {l : List (List Str)} (h : l ≠ []) : ltL (maxL l) (minL l) = false := maxL_ge (minL_mem h)
noncomputable def lcp : List Str -> List Str -> List Str
  | a :: l, b :: r => if a = b then a :: lcp l r else []
  | _, _ => []
theorem lcp_pre : ∀ {m M x : List Str}, ltL x m = false -> ltL M x = false -> lcp m M <+: x
  | [], _, x, _, _ => by simp [lcp]
  | _ :: _, [], x, _, _ => by simp [lcp]
  | a :: m, b :: M, x, h1, h2 => by
    unfold lcp
    split
    · rename_i e; subst e
      cases x with
      | nil => cases h1
      | cons y x =>
        by_cases e : y = a
        · subst e
          simp only [ltL, if_true] at h1 h2
          exact List.cons_prefix_cons.mpr ⟨rfl, lcp_pre h1 h2⟩
        · have e' : ¬ a = y := fun q => e q.symm
          simp only [ltL, e, e', if_false] at h1 h2
          rcases ltS_tri e with q | q
          · rw [h1] at q; cases q
          · rw [h2] at q; cases q
    · exact List.nil_prefix
theorem lcp_of_pre : ∀ {p m M : List Str}, p <+: m -> p <+: M -> p <+: lcp m M
  | [], _, _, _, _ => List.nil_prefix
  | a :: p, [], _, h, _ => by simp at h
  | a :: p, _ :: _, [], _, h => by simp at h
  | a :: p, b :: m, c :: M, h, h2 => by
    (refine byA (List.cons_prefix_cons.mp h) fun hq1 h' => ?_; subst hq1)
    (refine byA (List.cons_prefix_cons.mp h2) fun hq2 h2' => ?_; subst hq2)
    simp only [lcp, if_true]
    exact List.cons_prefix_cons.mpr ⟨rfl, lcp_of_pre h' h2'⟩
theorem lcp_app : ∀ (p l r : List Str), lcp (p ++ l) (p ++ r) = p ++ lcp l r
  | [], _, _ => rfl
  | a :: p, l, r => by simp [lcp, lcp_app p l r]
theorem lcp_nil (r : List Str) : lcp [] r = [] := by unfold lcp; rfl
theorem lcp_ne {a b : Str} (l r : List Str) (h : ¬ a = b) : lcp (a :: l) (b :: r) = [] := by unfold lcp; rw [if_neg h]
theorem cut_take {α : Type} (l : List α) {n : Nat} (h : n <= l.length) : cut l none (some (n : Int)) = l.take n := cut_takes l n
noncomputable def commonL (l : List (List Str)) : List Str := lcp (minL l) (maxL l)
theorem commonL_pre {l : List (List Str)} {x : List Str} (h : x ∈ l) : commonL l <+: x := lcp_pre (minL_le h) (maxL_ge h)
theorem commonL_of_pre {l : List (List Str)} {p : List Str} (h0 : l ≠ []) (h : ∀ x, x ∈ l -> p <+: x) : p <+: commonL l := lcp_of_pre (h _ (minL_mem h0)) (h _ (maxL_mem h0))
theorem lt_app : ∀ (p : List Str) (c : Str) (r : List Str), ltL p (p ++ c :: r) = true
  | [], c, r => rfl
  | x :: p, c, r => by simp [ltL, lt_app p c r]
section
variable {B : Base} {k : Nat} {K : Kinds} {Γ Γ' : G}
noncomputable def signs (x : Str) : List Str := x.cps.toList.map fun c => ⟨#[c]⟩
theorem Iter.str (O : B.Ok) {A : Around} (hh : A.handled = none) {I : Addr} {x : Str} {t : Tok} (lo : B.n₀ <= I) :
    Iter B A I (fun b => b = I) (fun b => False) false
      (fun V ds h => ∃ i, h.IsStrIter I "str_ascii_iterator" x t i ∧ ds = sl ((signs x).drop i))
      (fun V ds v h => ∃ i, h.IsStrIter I "str_ascii_iterator" x t i ∧ ds = sl ((signs x).drop i)) where
  frame := fun V V' ds h h' hx hv hk => by
    (refine byEA (hx) fun i h1 h4 => ?_; (try clear hx))
    (refine byEAA (h1) fun oi a1 a2 a3 => ?_; (try clear h1))
    exact ⟨i, ⟨oi, hk _ _ a1 (.inl rfl), a2, a3⟩, h4⟩
  item := fun V d ds s Q E inv _ hx hQ => by
    (refine byEA (hx) fun i h1 h4 => ?_; (try clear hx))
    have hl : i < x.cps.toList.length := by
      have := congrArg List.length h4
      simp [sl, signs] at this
      simp; omega
    have e4 : (signs x).drop i = ⟨#[x.cps.toList[i]]⟩ :: (signs x).drop (i + 1) := by
      unfold signs
      rw [List.drop_eq_getElem_cons (by simpa using hl)]
      simp
    rw [e4] at h4
    refine byA (List.cons.inj (show d :: ds = .str ⟨#[x.cps.toList[i]]⟩ :: sl ((signs x).drop (i + 1)) from h4)) fun ed eds => ?_
    subst ed; subst eds
    refine wpAny_pyNext_ascii_item (prog := B.prog) (w := B.w) h1 (c := x.cps.toList[i]) (by simp at hl; simp [hl]) fun h' hit hs => ?_
    refine byEAA (id h1) fun oi a1 a2 a3 => ?_
    exact hQ _ { s with heap := h', toks := s.toks + 1 } (inv.sameBut O (tk := s.toks + 1) hs lo fun o e => by rw [a1] at e; cases e; rw [a2]; simp) ⟨i + 1, hit, rfl⟩ (fun b o e nb => (hs.2 b nb).trans e) ⟨_, rfl⟩
  done := fun V s Q E inv hx hQ => by
    (refine byEA (hx) fun i h1 h4 => ?_; (try clear hx))
    have hl : x.cps.toList.length <= i := by
      have := congrArg List.length h4
      simp [sl, signs] at this
      simp; omega
    refine byEAA (id h1) fun oi a1 a2 a3 => ?_
    refine wpAny_pyNext_ascii_end (prog := B.prog) (w := B.w) hh h1 (by simp at hl; simp [hl]) fun h' hs => hQ { s with heap := h' } ?_ fun b o e nb => hs b o nb e
    refine ⟨O.step _ _ inv.good fun b o hb e => hs b o (by rintro rfl; exact hb.elim (fun hb => absurd lo (Nat.not_le.mpr hb)) fun c => by rw [a1] at e; cases e; rw [a2] at c; exact absurd c (by simp)) e, inv.gens, inv.os, ?_⟩
    refine byEA (inv.fr) fun l e hl => ?_
    refine ⟨l, e, fun env' he => ?_⟩
    (refine byA (hl env' he) fun hk hr1 => ?_; refine byEE (hr1) fun L o hr2 => ?_; (try clear hr1); refine byEEAAA (hr2) fun es ep f1 f2 f3 hr3 => ?_; (try clear hr2); refine byA (hr3) fun f4 f5 => ?_; (try clear hr3))
    exact ⟨hk, L, o, es, ep, f1, f2, hs L o (by rintro rfl; rw [a1] at f3; cases f3; rw [a2] at f4; exact absurd f4 (by simp)) f3, f4, f5⟩
  self := fun V ds s Q E hx hQ => by (refine byEA (hx) fun i h1 _ => ?_; (try clear hx)); exact wpAny_pyIter_striter_ascii (prog := B.prog) (w := B.w) h1 hQ
  own := fun V ds ts n p v s Q E inv hx hQ => by
    (refine byEA (hx) fun i h1 h2 => ?_; (try clear hx))
    refine byEAA (id h1) fun oi a1 a2 a3 => ?_
    exact own_plain a1 a2 (by decide) (hQ s inv ⟨i, h1, h2⟩ fun _ _ e _ => e)
  plain := fun _ _ _ _ _ x => x
  there := fun V ds h b hx e => by (refine byEA (hx) fun i hp4 _ => ?_; (try clear hx); obtain ⟨oi, a1, a2, _⟩ := hp4); exact ⟨oi, e ▸ a1, priv_of a2 (by decide)⟩
  thereO := fun V ds v h b hx e => by (refine byEA (hx) fun i hp5 _ => ?_; (try clear hx); obtain ⟨oi, a1, a2, _⟩ := hp5); exact ⟨oi, e ▸ a1, priv_of a2 (by decide)⟩
  data := fun V ds h b _ e => e.elim
theorem EvI.str (O : B.Ok) {e : Expr} {y : Str} (x : Ev B (k + 1) K Γ e (.str y)) (ha : y.cps.all (· < 128) = true) : EvI B (k + 1) K Γ e false (sl (signs y)) := .mk fun A env V s Q E rm o i g h =>
  x.run A env V s _ E rm o i g fun v s₁ i₁ k₁ l₁ => by
    simp only [Lay] at l₁
    (refine byE (l₁) fun t hq6 => ?_; (try clear l₁); subst hq6)
    have kp : ∀ b o, s₁.heap.get? b = some o → (s₁.heap.push { cls := .type "str_ascii_iterator", data := .fields #[.str y t, .int 0 0] }).get? b = some o := fun b o e => Heap.get?_push_of_some _ e
    refine wpAny_pyIter_ascii (prog := B.prog) (w := B.w) ha (h _ _ _ _ _ { s₁ with heap := s₁.heap.push { cls := .type "str_ascii_iterator", data := .fields #[.str y t, .int 0 0] } } (i₁.keep O (tk := s₁.toks) kp) (k₁.trans (.of kp)) (Iter.str O (rm.handled (Nat.succ_pos _)) (x := y) (t := t) (O.size _ i₁.good)) ⟨0, ⟨_, Heap.get?_push_size _ rfl, rfl, rfl⟩, rfl⟩ ?_ fun _ q => q)
    rintro b rfl
    cases e : s.heap.get? s₁.heap.objs.size with
    | none => rfl
    | some o => refine byE ((k₁ _ _ e).ex) fun o' e' => ?_; exact absurd (Heap.lt_size e') (Nat.lt_irrefl _)
end
structure XAt (n₀ : Nat) (h₀ h : Heap) (V : Addr -> Prop) (tb cx : Bool) (e : Addr) : Prop where
  new : h₀.get? e = none
  lo : n₀ <= e
  off : ¬ V e
  there : ∃ oe vs, h.get? e = some oe ∧ oe.cls = .type "IndexError" ∧ oe.data = .fields vs ∧ 2 < vs.size ∧ (cx = false → vs[2]? = some .none) ∧
    ((tb = false ∧ vs[1]? = some .none) ∨ ∃ T oT ts, vs[1]? = some (.ref T) ∧ h₀.get? T = none ∧ n₀ ≤ T ∧ ¬ V T ∧ T ≠ e ∧ h.get? T = some oT ∧ oT.cls = .type "traceback" ∧ oT.data = .fields ts ∧ 3 < ts.size)
noncomputable def XCh (n₀ : Nat) (h₀ h h' : Heap) : Prop := ∀ b o, h.get? b = some o → h'.get? b = some o ∨ (o.cls = .type "frame" ∧ n₀ ≤ b ∧ ∃ sl, h'.get? b = some { o with slots := sl }) ∨ (h₀.get? b = none ∧ n₀ ≤ b ∧ IsPriv o ∧ (o.cls ≠ .none ∧ o.cls ≠ .type "code") ∧ ∃ o', h'.get? b = some o' ∧ o'.cls = o.cls)
theorem XCh.refl {n₀ : Nat} {h₀ h : Heap} : XCh n₀ h₀ h h := fun _ _ e => .inl e
theorem XCh.trans {n₀ : Nat} {h₀ h₁ h₂ h₃ : Heap} (x : XCh n₀ h₀ h₁ h₂) (y : XCh n₀ h₀ h₂ h₃) : XCh n₀ h₀ h₁ h₃ := fun b o e => by
  rcases x b o e with e1 | ⟨c, l, sl, e1⟩ | ⟨n, l, p, cn, o', e1, c⟩
  · exact y b o e1
  · rcases y b _ e1 with e2 | ⟨_, _, sl', e2⟩ | ⟨n, _, p, _⟩
    · exact .inr (.inl ⟨c, l, sl, e2⟩)
    · exact .inr (.inl ⟨c, l, sl', e2⟩)
    · exact absurd c p.2.1
  · rcases y b _ e1 with e2 | ⟨c2, _⟩ | ⟨_, _, _, _, o'', e2, c2⟩
    · exact .inr (.inr ⟨n, l, p, cn, o', e2, c⟩)
    · exact absurd (c ▸ c2) p.2.1
    · exact .inr (.inr ⟨n, l, p, cn, o'', e2, c2.trans c⟩)
theorem XCh.dom {n₀ : Nat} {h₀ h h' : Heap} (x : XCh n₀ h₀ h h') : Dom h h' := fun b o e => by
  rcases x b o e with e1 | ⟨_, _, sl, e1⟩ | ⟨_, _, _, _, o', e1, _⟩
  · exact ⟨_, e1⟩
  · exact ⟨_, e1⟩
  · exact ⟨_, e1⟩
theorem XCh.kq {n₀ : Nat} {h₀ h h' : Heap} (x : XCh n₀ h₀ h h') : Kq h h' := fun b o e => by
  rcases x b o e with e1 | ⟨c, _, sl, e1⟩ | ⟨_, _, p, _⟩
  · exact .inl e1
  · exact .inr (.inl ⟨c, sl, e1⟩)
  · exact .inr (.inr p)
theorem XCh.off {n₀ : Nat} {h₀ h h' : Heap} {W : Addr -> Prop} (x : XCh n₀ h₀ h h') (k : KpOff W h₀ h) : KpOff W h₀ h' := fun b o nb e => by
  rcases k b o nb e with k | ⟨c, sl, k⟩ | ⟨c, o', k⟩
  · rcases x b o k with e1 | ⟨c, _, sl, e1⟩ | ⟨n, _⟩
    · exact .inl e1
    · exact .inr (.inl ⟨c, sl, e1⟩)
    · rw [e] at n; cases n
  · rcases x b _ k with e1 | ⟨_, _, sl', e1⟩ | ⟨n, _⟩
    · exact .inr (.inl ⟨c, sl, e1⟩)
    · exact .inr (.inl ⟨c, sl', e1⟩)
    · rw [e] at n; cases n
  · exact .inr (.inr ⟨c, x.dom b o' k⟩)
theorem XCh.ext {n₀ : Nat} {h₀ h h' : Heap} {W W' : Addr -> Prop} (x : XCh n₀ h₀ h h') (k : Ext W h₀ W' h) : Ext W h₀ W' h' := ⟨k.new, x.off k.kp⟩
theorem XCh.older {n₀ : Nat} {h₀ h₁ h h' : Heap} (x : XCh n₀ h₁ h h') (d : Dom h₀ h₁) : XCh n₀ h₀ h h' := fun b o e => by
  rcases x b o e with e1 | e1 | ⟨n, r⟩
  · exact .inl e1
  · exact .inr (.inl e1)
  · refine .inr (.inr ⟨?_, r⟩)
    cases q : h₀.get? b with
    | none => rfl
    | some o' => refine byE (d b o' q) fun o'' q' => ?_; rw [n] at q'; cases q'
theorem XAt.older {n₀ : Nat} {h₀ h₁ h : Heap} {V : Addr -> Prop} {tb cx : Bool} {e : Addr} (x : XAt n₀ h₁ h V tb cx e) (d : Dom h₀ h₁) : XAt n₀ h₀ h V tb cx e := by
  have dn : ∀ b, h₁.get? b = none -> h₀.get? b = none := fun b n => by
    cases q : h₀.get? b with
    | none => rfl
    | some o' => refine byE (d b o' q) fun o'' q' => ?_; rw [n] at q'; cases q'
  obtain ⟨a, b, c, oe, vs, h1, h2, h3, h4, h5, h6⟩ := x
  refine ⟨dn _ a, b, c, oe, vs, h1, h2, h3, h4, h5, h6.imp id ?_⟩
  rintro ⟨T, oT, ts, t1, t2, t3⟩
  exact ⟨T, oT, ts, t1, dn _ t2, t3⟩
section
variable {B : Base} {k : Nat} {K : Kinds} {Γ Γ' : G} {A : Around} {s : Shared} {env : Env}
theorem Frames.xch {h₀ h h' : Heap} {n₀ : Nat} (f : Frames B A h) (x : XCh n₀ h₀ h h') : Frames B A h' := by
  (refine byEA (f) fun l e hl => ?_; (try clear f))
  refine ⟨l, e, fun env' he => ?_⟩
  (refine byA (hl env' he) fun hk hr1 => ?_; refine byEE (hr1) fun L o hr2 => ?_; (try clear hr1); refine byEEAAA (hr2) fun es ep f1 f2 f3 hr3 => ?_; (try clear hr2); refine byA (hr3) fun f4 f5 => ?_; (try clear hr3))
  rcases x L o f3 with q | ⟨_, _, sl, q⟩ | ⟨_, _, p, _⟩
  · exact ⟨hk, L, o, es, ep, f1, f2, q, f4, f5⟩
  · exact ⟨hk, L, _, es, ep, f1, f2, q, f4, f5⟩
  · exact absurd f4 p.2.1
theorem Inv.xch (O : B.Ok) {h₀ h' : Heap} (i : Inv B A s) (x : XCh B.n₀ h₀ s.heap h') {tk : Nat} : Inv B A { s with heap := h', toks := tk } := by
  refine ⟨O.step _ _ i.good fun b o hb e => ?_, i.gens, i.os, i.fr.xch x⟩
  rcases x b o e with q | ⟨c, l, _⟩ | ⟨_, l, _, c, _⟩
  · exact q
  · exact hb.elim (fun hb => absurd hb (Nat.not_lt.mpr l)) fun hb => by rw [hb] at c; exact absurd c (by simp)
  · exact hb.elim (fun hb => absurd hb (Nat.not_lt.mpr l)) fun hb => absurd hb c.2
noncomputable def AtTop (A : Around) (env : Env) : Prop := ∃ outer L, A.frames = some (env :: outer) /\ env.frame = some L
theorem Inv.mark (i : Inv B A s) (m : Option Value) : Inv B (A.mark m) s := ⟨i.good, i.gens, i.os, i.fr⟩
theorem Inv.unmark {m : Option Value} (i : Inv B (A.mark m) s) : Inv B A s := ⟨i.good, i.gens, i.os, i.fr⟩
noncomputable def nohp : Heap := {}
theorem funFrames (i : Inv B A s) {l : List Env} (e : A.frames = some l) : s.heap.FunFrames nohp l := by
  refine byEA (i.fr) fun l' e' hl => ?_
  rw [e] at e'; cases e'
  have go : ∀ m : List Env, (∀ env ∈ m, env ∈ l) -> s.heap.FunFrames nohp m := by
    intro m
    induction m with
    | nil => intro _; trivial
    | cons a m IH =>
      intro hm
      (refine byA (hl a (hm a (.head _))) fun hk hr4 => ?_; refine byEE (hr4) fun L o hr5 => ?_; (try clear hr4); refine byEEAAA (hr5) fun es ep f1 f2 f3 hr6 => ?_; (try clear hr5); refine byA (hr6) fun f4 f5 => ?_; (try clear hr6))
      exact ⟨hk, ⟨L, o, f1, by simp [nohp, Heap.get?], f3, fun vs q => by rw [f5] at q; cases q⟩, IH fun b hb => hm b (.tail _ hb)⟩
  exact go l fun _ h => h
theorem slots_xch {h₀ h' : Heap} (i : Inv B A s) {l : List Env} (e : A.frames = some l) (x : Heap.SlotsOnly (l.filterMap (·.frame)) s.heap h') : XCh B.n₀ h₀ s.heap h' := fun b o eb => by
  by_cases hb : b ∈ l.filterMap (·.frame)
  · refine byEA (i.fr) fun l' e' hl => ?_
    rw [e] at e'; cases e'
    refine byEA (List.mem_filterMap.mp hb) fun env' m q => ?_
    (refine byA (hl env' m) fun hk hr7 => ?_; refine byEE (hr7) fun L o' hr8 => ?_; (try clear hr7); refine byEEAAA (hr8) fun es ep f1 f2 f3 hr9 => ?_; (try clear hr8); refine byA (hr9) fun f4 f5 => ?_; (try clear hr9))
    rw [f1] at q; cases q
    rw [eb] at f3; cases f3
    refine byE (x.2.2 b o eb) fun sl q => ?_
    exact .inr (.inl ⟨f4, f2, sl, q⟩)
  · exact .inl ((x.2.1 b hb).trans eb)
theorem x_entry (O : B.Ok) (i : Inv B A s) {outer : List Env} {L : Addr} {h₀ : Heap} {V : Addr -> Prop} {cx : Bool} {e : Addr} {oe : Obj} {vs : Array Value} {head : Value} {hadNext : Bool} {Q : Unit -> Shared -> Prop} {E : Value -> Shared -> Prop}
    (hfr : A.frames = some (env :: outer)) (hf : env.frame = some L) (he : s.heap.get? e = some oe) (hc : oe.cls = .type "IndexError") (hd : oe.data = .fields vs) (hsz : 2 < vs.size) (hcx : cx = false → vs[2]? = some .none)
    (new : h₀.get? e = none) (lo : B.n₀ <= e) (off : ¬ V e) (old : Dom h₀ s.heap) (hV : ∀ b, V b -> ∃ o, s.heap.get? b = some o)
    (hQ : ∀ h', XCh B.n₀ h₀ s.heap h' -> XAt B.n₀ h₀ h' V true cx e -> Q () { s with heap := h' }) :
    wpAny B.M A (do let a <- frameOf env; let pl <- entryPlaceOf L hadNext; let b <- EntryCells.newEntry head a .none (rawInt L) .none pl; setField (.ref e) 1 b) Q E s := by
  refine wpAny_bind (wpAny_frameOf_fun hfr (funFrames i hfr) hf fun h₁ hs₁ => ?_)
  have x₁ : XCh B.n₀ h₀ s.heap h₁ := slots_xch i hfr hs₁
  refine wpAny_bind (wpAny_entryPlaceOf fun pl hpl => ?_)
  unfold EntryCells.newEntry newFields
  refine wpAny_bind (wpAny_newObj_type ?_ (hpl.sizeOk5 _ _ _ _ _))
  have he₁ : h₁.get? e = some oe := by
    rcases x₁ e oe he with q | ⟨q, _⟩ | ⟨_, _, _, _, o', q, _⟩
    · exact q
    · rw [hc] at q; exact absurd q (by simp)
    · refine byE (hs₁.2.2 e oe he) fun sl q' => ?_
      by_cases hb : e ∈ (env :: outer).filterMap (·.frame)
      · refine byEA (i.fr) fun l' e' hl => ?_
        rw [hfr] at e'; cases e'
        refine byEA (List.mem_filterMap.mp hb) fun env' m z => ?_
        (refine byA (hl env' m) fun hk hr10 => ?_; refine byEE (hr10) fun L' o'' hr11 => ?_; (try clear hr10); refine byEEAAA (hr11) fun es ep f1 f2 f3 hr12 => ?_; (try clear hr11); refine byA (hr12) fun f4 f5 => ?_; (try clear hr12))
        rw [f1] at z; cases z
        rw [he] at f3; cases f3
        rw [hc] at f4; exact absurd f4 (by simp)
      · exact (hs₁.2.1 e hb).trans he
  have he₂ := Heap.get?_push_of_some (h := h₁) { cls := .type "traceback", dict := none, data := .fields ([head, .ref L, .none, rawInt L, .none] ++ (if pl.isEmpty then List.replicate 6 Value.none else pl)).toArray } he₁
  refine wpAny_setField he₂ hd (by omega) (hQ _ ?_ ?_)
  · refine x₁.trans fun b o eb => ?_
    by_cases hbe : b = e
    · subst hbe
      rw [he₁] at eb; cases eb
      refine .inr (.inr ⟨new, lo, (priv_of hc (by decide)).1, by rw [hc]; simp, _, Heap.get?_update_self _ he₂ (Obj.isFreed_of_fields (Obj.data_mapFields hd _)), Obj.cls_mapFields _ _⟩)
    · refine .inl ?_
      rw [Heap.get?_update_other _ _ (Ne.symm hbe)]
      exact Heap.get?_push_of_some _ eb
  · have hTe : h₁.objs.size ≠ e := Nat.ne_of_gt (Heap.lt_size he₁)
    have hd₃ := Obj.data_mapFields hd (·.setIfInBounds 1 (Value.ref h₁.objs.size))
    have sz : h₁.objs.size = s.heap.objs.size := hs₁.1
    refine ⟨new, lo, off, _, _, Heap.get?_update_self _ he₂ (Obj.isFreed_of_fields hd₃), (Obj.cls_mapFields _ _).trans hc, hd₃, by simp [hsz], fun q => ?_, .inr ⟨h₁.objs.size, { cls := .type "traceback", dict := none, data := .fields ([head, .ref L, .none, rawInt L, .none] ++ (if pl.isEmpty then List.replicate 6 Value.none else pl)).toArray }, _, by rw [Array.getElem?_setIfInBounds_self_of_lt (by omega)], ?_, ?_, ?_, hTe, ?_, rfl, rfl, by simp only [List.size_toArray, List.length_append, List.length_cons, List.length_nil]; omega⟩⟩
    · rw [Array.getElem?_setIfInBounds_ne (by decide)]; exact hcx q
    · cases q : h₀.get? h₁.objs.size with
      | none => rfl
      | some o' => refine byE (old _ _ q) fun o'' q' => ?_; rw [sz] at q'; exact absurd (Heap.lt_size q') (Nat.lt_irrefl _)
    · rw [sz]; exact O.size _ i.good
    · intro q
      refine byE (hV _ q) fun o' q' => ?_
      rw [sz] at q'; exact absurd (Heap.lt_size q') (Nat.lt_irrefl _)
    · exact (Heap.get?_update_other _ _ (Ne.symm hTe)).trans (Heap.get?_push_size h₁ rfl)
theorem x_field3 {h₀ : Heap} {V : Addr -> Prop} {cx : Bool} {e T : Addr} {oe oT : Obj} {vs ts : Array Value} {v : Value} {Q : Unit -> Shared -> Prop} {E : Value -> Shared -> Prop} 
    (new : h₀.get? e = none) (lo : B.n₀ ≤ e) (off : ¬ V e) (he : s.heap.get? e = some oe) (hc : oe.cls = .type "IndexError") (hd : oe.data = .fields vs) (hsz : 2 < vs.size) (hcx : cx = false → vs[2]? = some .none)
    (t1 : vs[1]? = some (.ref T)) (t2 : h₀.get? T = none) (t3 : B.n₀ ≤ T) (t4 : ¬ V T) (t5 : T ≠ e) (t6 : s.heap.get? T = some oT) (t7 : oT.cls = .type "traceback") (t8 : oT.data = .fields ts) (t9 : 3 < ts.size)
    (hQ : ∀ h', XCh B.n₀ h₀ s.heap h' → XAt B.n₀ h₀ h' V true cx e → h'.get? e = some oe → (∃ oT' ts', h'.get? T = some oT' ∧ oT'.cls = .type "traceback" ∧ oT'.data = .fields ts' ∧ 3 < ts'.size) → Q () { s with heap := h' }) :
    wpAny B.M A (setField (.ref T) 3 v) Q E s := by
  have hd₃ := Obj.data_mapFields t8 (·.setIfInBounds 3 v)
  have hT := Heap.get?_update_self (Obj.mapFields (·.setIfInBounds 3 v)) t6 (Obj.isFreed_of_fields hd₃)
  have hT' : ∃ oT' ts', (s.heap.update T (Obj.mapFields (·.setIfInBounds 3 v))).get? T = some oT' ∧ oT'.cls = .type "traceback" ∧ oT'.data = .fields ts' ∧ 3 < ts'.size := ⟨_, _, hT, (Obj.cls_mapFields _ _).trans t7, hd₃, by simp [t9]⟩
  have he' : (s.heap.update T (Obj.mapFields (·.setIfInBounds 3 v))).get? e = some oe := (Heap.get?_update_other _ _ t5).trans he
  refine wpAny_setField t6 t8 t9 (hQ _ (fun b o eb => ?_) ⟨new, lo, off, oe, vs, he', hc, hd, hsz, hcx, .inr ?_⟩ he' hT')
  · by_cases hb : b = T
    · subst hb
      rw [t6] at eb; cases eb
      exact .inr (.inr ⟨t2, t3, (priv_of t7 (by decide)).1, by rw [t7]; simp, _, hT, Obj.cls_mapFields _ _⟩)
    · exact .inl ((Heap.get?_update_other _ _ (Ne.symm hb)).trans eb)
  · (refine byEEAAA (hT') fun oT' ts' a b c d => ?_; (try clear hT'))
    exact ⟨T, oT', ts', t1, t2, t3, t4, t5, a, b, c, d⟩
theorem x_note (O : B.Ok) (i : Inv B A s) (tp : AtTop A env) {h₀ : Heap} {V : Addr -> Prop} {tb cx : Bool} {e : Addr} (x : XAt B.n₀ h₀ s.heap V tb cx e) (old : Dom h₀ s.heap) (hV : ∀ b, V b -> ∃ o, s.heap.get? b = some o) {Q : Unit -> Shared -> Prop} {E : Value -> Shared -> Prop}
    (hQ : ∀ h', XCh B.n₀ h₀ s.heap h' -> XAt B.n₀ h₀ h' V true cx e -> Q () { s with heap := h' }) : wpAny B.M A (noteFrame (.ref e) env) Q E s := by
  (refine byEEA (tp) fun outer L hfr hf => ?_; (try clear tp))
  obtain ⟨new, lo, off, oe, vs, he, hc, hd, hsz, hcx, h6⟩ := id x
  unfold noteFrame
  simp only [hf]
  rcases h6 with ⟨_, h1⟩ | ⟨T, oT, ts, t1, t2, t3, t4, t5, t6, t7, t8, t9⟩
  · refine wpAny_bind (wpAny_field he hd h1 ?_)
    rw [if_neg (by decide)]
    exact x_entry O i hfr hf he hc hd hsz hcx new lo off old hV hQ
  · refine wpAny_bind (wpAny_field he hd t1 ?_)
    rw [if_pos (show (Value.ref T != Value.none) = true from by simp)]
    have g3 : ts[3]? = some ts[3] := by simp [t9]
    refine wpAny_bind (wpAny_field t6 t8 g3 ?_)
    split
    · exact wpAny_pure (hQ s.heap .refl ⟨new, lo, off, oe, vs, he, hc, hd, hsz, hcx, .inr ⟨T, oT, ts, t1, t2, t3, t4, t5, t6, t7, t8, t9⟩⟩)
    · refine wpAny_bind (x_field3 (V := V) (cx := cx) new lo off he hc hd hsz hcx t1 t2 t3 t4 t5 t6 t7 t8 t9 fun h₁ x₁ _ he₁ _ => ?_)
      refine x_entry (s := { s with heap := h₁ }) O (i.xch O (tk := s.toks) x₁) hfr hf he₁ hc hd hsz hcx new lo off (old.trans x₁.dom) (fun b q => let ⟨o, z⟩ := hV b q; x₁.dom b o z) fun h' x' a' => hQ h' (x₁.trans x') a'
theorem x_flight {h₀ : Heap} {V : Addr -> Prop} {cx : Bool} {e : Addr} {f : Option Addr} (x : XAt B.n₀ h₀ s.heap V true cx e) {Q : Unit -> Shared -> Prop} {E : Value -> Shared -> Prop}
    (hQ : ∀ h', XCh B.n₀ h₀ s.heap h' -> XAt B.n₀ h₀ h' V true cx e -> Q () { s with heap := h' }) : wpAny B.M A (setFlight (.ref e) f) Q E s := by
  obtain ⟨new, lo, off, oe, vs, he, hc, hd, hsz, hcx, h6⟩ := id x
  rcases h6 with ⟨h, _⟩ | ⟨T, oT, ts, t1, t2, t3, t4, t5, t6, t7, t8, t9⟩
  · cases h
  · unfold setFlight
    refine wpAny_bind (wpAny_field he hd t1 ?_)
    rw [if_pos (show (Value.ref T != Value.none) = true from by simp)]
    exact x_field3 (V := V) (cx := cx) new lo off he hc hd hsz hcx t1 t2 t3 t4 t5 t6 t7 t8 t9 fun h₁ x₁ a₁ _ _ => hQ h₁ x₁ a₁
end
noncomputable def CanR (A : Around) (V : Addr → Prop) (h : Heap) : Prop := A.handled = none ∨ ∃ a o vs, A.handled = some (.ref a) ∧ ¬ V a ∧ h.get? a = some o ∧ o.cls = .type "IndexError" ∧ o.data = .fields vs ∧ vs[2]? = some .none
noncomputable def cxOf (A : Around) : Bool := A.handled.isSome
theorem CanR.kp {A : Around} {V : Addr -> Prop} {h h' : Heap} (c : CanR A V h) (k : Kp h h') : CanR A V h' := by
  rcases c with c | ⟨a, o, vs, c1, c2, c3, c4, c5⟩
  · exact .inl c
  · exact .inr ⟨a, o, vs, c1, c2, (k a o c3).exact (by rw [c4]; simp) (by rw [c4]; simp), c4, c5⟩
theorem CanR.ext {A : Around} {V₀ W W' : Addr -> Prop} {h h' : Heap} (c : CanR A (fun b => V₀ b \/ W b) h) (k : Ext W h W' h') : CanR A (fun b => V₀ b \/ W' b) h' := by
  rcases c with c | ⟨a, o, vs, c1, c2, c3, c4, c5⟩
  · exact .inl c
  · refine .inr ⟨a, o, vs, c1, fun q => ?_, (k.kp a o (fun q => c2 (.inr q)) c3).exact (by rw [c4]; simp) (by rw [c4]; simp), c4, c5⟩
    rcases q with q | q
    · exact c2 (.inl q)
    · rcases k.new a q with z | z
      · exact c2 (.inr z)
      · rw [c3] at z; cases z
theorem XAt.any {n₀ : Nat} {h₀ h : Heap} {V : Addr -> Prop} {tb cx : Bool} {e : Addr} (x : XAt n₀ h₀ h V tb cx e) : XAt n₀ h₀ h V false cx e := by
  obtain ⟨a, b, c, oe, vs, h1, h2, h3, h4, h5, h6⟩ := x
  exact ⟨a, b, c, oe, vs, h1, h2, h3, h4, h5, h6.imp (fun z => ⟨rfl, z.2⟩) id⟩
theorem XAt.cx {n₀ : Nat} {h₀ h : Heap} {V : Addr -> Prop} {tb cx : Bool} {e : Addr} (x : XAt n₀ h₀ h V tb cx e) : XAt n₀ h₀ h V tb true e := by
  obtain ⟨a, b, c, oe, vs, h1, h2, h3, h4, h5, h6⟩ := x
  exact ⟨a, b, c, oe, vs, h1, h2, h3, h4, (fun q => by cases q), h6⟩
section
variable {B : Base} {k : Nat} {K : Kinds} {Γ Γ' : G} {A : Around} {s : Shared} {env : Env} {V : Addr -> Prop}
theorem entry_unchain : entryFor table "proto.unchain" = some Builtin.«proto.unchain» := entryFor_of_fast (by kernel_rfl)
theorem x_raise {α : Type} {Q : α -> Shared -> Prop} {E : Value -> Shared -> Prop} {e : Addr} {t : Value} {h₁ : Heap} (cr : CanR A V s.heap) (hV : ∀ b, V b -> ∃ o, s.heap.get? b = some o)
    (keep : ∀ b o, s.heap.get? b = some o → h₁.get? b = some o) (new : s.heap.get? e = none) (lo : B.n₀ ≤ e) (he : h₁.get? e = some { cls := .type "IndexError", dict := none, data := .fields #[t, .none, .none, .none, .bool false, .none] }) {tk : Nat}
    (hE : ∀ h', (∀ b o, s.heap.get? b = some o -> h'.get? b = some o) -> XAt B.n₀ s.heap h' V false (cxOf A) e -> E (.ref e) { s with heap := h', toks := tk }) :
    wpAny B.M A (raiseNew (.ref e) : Sem α) Q E { s with heap := h₁, toks := tk } := by
  have off : ¬ V e := fun q => by refine byE (hV e q) fun o z => ?_; rw [new] at z; cases z
  unfold raiseNew
  refine wpAny_bind (wpAny_handled ?_)
  rcases cr with c | ⟨a, o, vs, c1, c2, c3, c4, c5, c6⟩
  · rw [c]
    refine wpAny_bind (wpAny_pure (wpAny_throw ?_))
    exact hE h₁ keep ⟨new, lo, off, _, _, he, rfl, rfl, by show 2 < 6; decide, fun _ => rfl, .inl ⟨rfl, rfl⟩⟩
  · rw [c1]
    have hae : a ≠ e := by rintro rfl; rw [new] at c3; cases c3
    have hne : (Value.ref a != Value.ref e) = true := by simp [hae]
    show wpAny _ _ (if (Value.ref a != Value.ref e) = true then _ else _) _ _ _
    rw [if_pos hne]
    refine wpAny_bind (wpAny_holding (wpAny_runValue (codeAny_builtin entry_unchain ?_)))
    unfold Builtin.«proto.unchain»
    have ha : h₁.get? a = some o := keep a o c3
    refine wpAny_bind (m := field (.ref a) 2) (wpAny_field (s := { s with heap := h₁, toks := tk }) ha c5 c6 ?_)
    rw [if_pos (by decide)]
    refine wpAny_bind (m := ret .none) (wpAny_pure ?_)
    refine wpAny_pure ?_
    show wpAny B.M A (setField (.ref e) 2 (.ref a) >>= _) _ E { s with heap := h₁, toks := tk }
    refine wpAny_bind (wpAny_setField (s := { s with heap := h₁, toks := tk }) he rfl (by show 2 < 6; decide) (wpAny_throw ?_))
    have hd₃ := Obj.data_mapFields (o := { cls := .type "IndexError", dict := none, data := .fields #[t, .none, .none, .none, .bool false, .none] }) rfl (·.setIfInBounds 2 (Value.ref a))
    have hx : cxOf A = true := by unfold cxOf; rw [c1]; rfl
    refine hE _ (fun b o' eb => ?_) ⟨new, lo, off, _, _, Heap.get?_update_self _ he (Obj.isFreed_of_fields hd₃), Obj.cls_mapFields _ _, hd₃, by simp, fun q => (by rw [hx] at q; cases q), .inl ⟨rfl, by simp⟩⟩
    have hb : b ≠ e := by rintro rfl; rw [new] at eb; cases eb
    exact (Heap.get?_update_other _ _ (Ne.symm hb)).trans (keep b o' eb)
theorem x_raiseWords {α : Type} {msg : String} {Q : α -> Shared -> Prop} {E : Value -> Shared -> Prop} (O : B.Ok) (i : Inv B A s) (cr : CanR A V s.heap) (hV : ∀ b, V b -> ∃ o, s.heap.get? b = some o)
    (hE : ∀ h' tk e, (∀ b o, s.heap.get? b = some o -> h'.get? b = some o) -> XAt B.n₀ s.heap h' V false (cxOf A) e -> E (.ref e) { s with heap := h', toks := tk }) :
    wpAny B.M A (raiseErrorWords "IndexError" msg : Sem α) Q E s := by
  unfold raiseErrorWords
  refine wpAny_bind (wpAny_mkText (wpAny_bind ?_))
  unfold newExc newTuple
  refine wpAny_bind (wpAny_newObj_type ?_)
  refine wpAny_bind (m := firstArgMember _ _) (wpAny_of_eq (a := Value.none) (by simp only [firstArgMember, plainExc_IndexError.first]; rfl) ?_)
  rw [plainExc_IndexError.own]
  refine wpAny_newObj_type ?_
  refine x_raise cr hV (fun b o e => Heap.get?_push_of_some _ (Heap.get?_push_of_some _ e)) (Heap.get?_none_of_le (by simp)) ?_ (Heap.get?_push_size _ rfl) (fun h' k x => hE h' _ _ k x)
  rw [Heap.size_push]
  exact Nat.le_trans (O.size _ i.good) (Nat.le_succ _)
theorem fitsPos {n : Int} (h0 : 0 <= n) (h1 : n < 2 ^ 63) : Builtin.List.listFitsIndex n = true := by
  unfold Builtin.List.listFitsIndex
  simp only [Bool.and_eq_true, decide_eq_true_eq]
  omega
theorem x_item {l : Addr} {items : Array Value} {n : Int} {t : Tok} {Q : Value -> Shared -> Prop} {E : Value -> Shared -> Prop} (O : B.Ok) (i : Inv B A s) (cr : CanR A V s.heap) (hV : ∀ b, V b -> ∃ o, s.heap.get? b = some o)
    (hl : s.heap.IsList l items) (h0 : (items.size : Int) <= n) (h1 : n < 2 ^ 63)
    (hE : ∀ h' tk e, (∀ b o, s.heap.get? b = some o -> h'.get? b = some o) -> XAt B.n₀ s.heap h' V false (cxOf A) e -> E (.ref e) { s with heap := h', toks := tk }) :
    wpAny B.M A (getItem (.ref l) (.int n t)) Q E s := by
  refine byEAAE (id hl) fun o ho hc ne hd => ?_
  unfold getItem
  try with_reducible refine wpAny_holding ?_
  first | refine wpAny_bind (wpAny_pure ?_) | skip
  refine wpAny_bind (wpAny_sequenceKey hl.typeIs (by decide) ?_)
  refine wpAny_bind (wpAny_callSpecial?_slot (name := Str.ofString "__getitem__") hl.typeIs slot_list_getitem
    (wpAny_call_entry slot_list_getitem hl.typeIs entry_list_getitem ?_ (args_list_getitem _ _)))
  show wpAny _ _ (Builtin.List.listSubscript? (.int n t) >>= _) _ _ s
  refine wpAny_bind (wpAny_listSubscript_int (fitsPos (by omega) h1) ?_)
  clear h1
  obtain ⟨j, rfl⟩ : ∃ j : Nat, n = Int.ofNat j := ⟨n.toNat, by simp only [Int.ofNat_eq_natCast]; omega⟩
  have hx : items[j]? = none := Array.getElem?_eq_none (by have : (items.size : Int) <= (j : Int) := h0; omega)
  show wpAny _ _ ((seqItemAt l j >>= fun r => pure (r.map (j, ·))) >>= _) _ _ s
  refine wpAny_bind (wpAny_bind (wpAny_seqItemAt ho hd (wpAny_pure ?_)))
  rw [hx]
  first
    | exact wpAny_bind (wpAny_rule (x_raiseWords O i.in1 cr hV hE))
    | exact wpAny_bind (wpAny_rule (wpAny_bind (x_raiseWords O i.in1 cr hV hE)))
    | exact wpAny_bind (wpAny_bind (wpAny_rule (x_raiseWords O i.in1 cr hV hE)))
    | exact wpAny_rule (x_raiseWords O i.in1 cr hV hE)
end
structure EvX (B : Base) (k : Nat) (K : Kinds) (Γ : G) (e : Expr) : Prop where
  run : ∀ (A : Around) (env : Env) (V : Addr -> Prop) (s : Shared) (Q : Value -> Shared -> Prop) (E : Value -> Shared -> Prop),
  Room k A -> EnvOk K env -> Inv B A s -> EnvR B V s.heap env Γ -> CanR A V s.heap ->
  (∀ x s', Inv B A s' -> Kp s.heap s'.heap -> XAt B.n₀ s.heap s'.heap V false (cxOf A) x -> E (.ref x) s') -> wpAny B.M A (eval e env) Q E s
structure EvTX (B : Base) (k : Nat) (K : Kinds) (Γ : G) (e : Expr) : Prop where
  run : ∀ (A : Around) (env : Env) (V : Addr -> Prop) (s : Shared) (Q : Bool -> Shared -> Prop) (E : Value -> Shared -> Prop),
  Room k A -> EnvOk K env -> Inv B A s -> EnvR B V s.heap env Γ -> CanR A V s.heap ->
  (∀ x s', Inv B A s' -> Kp s.heap s'.heap -> XAt B.n₀ s.heap s'.heap V false (cxOf A) x -> E (.ref x) s') -> wpAny B.M A (isTrue e env (eval e env)) Q E s
structure ExX (B : Base) (k : Nat) (K : Kinds) (Γ : G) (ss : List Stmt) (c : Bool) (Γ' : G) : Prop where
  run : ∀ (A : Around) (env : Env) (V₀ W : Addr -> Prop) (s : Shared) (Q : Flow -> Shared -> Prop) (E : Value -> Shared -> Prop),
  Room k A -> EnvOk K env -> Inv B A s -> Stm B V₀ W s.heap env Γ -> AtTop A env -> CanR A (fun b => V₀ b \/ W b) s.heap ->
  (∀ x s' W', Inv B A s' -> Dom s.heap s'.heap -> Ext W s.heap W' s'.heap -> Stm B V₀ W' s'.heap env Γ' -> XAt B.n₀ s.heap s'.heap (fun b => V₀ b \/ W' b) false (c || cxOf A) x -> E (.ref x) s') -> wpAny B.M A (execs ss env) Q E s
structure ExX1 (B : Base) (k : Nat) (K : Kinds) (Γ : G) (st : Stmt) (c : Bool) (Γ' : G) : Prop where
  run : ∀ (A : Around) (env : Env) (V₀ W : Addr -> Prop) (s : Shared) (Q : Flow -> Shared -> Prop) (E : Value -> Shared -> Prop),
  Room k A -> EnvOk K env -> Inv B A s -> Stm B V₀ W s.heap env Γ -> AtTop A env -> CanR A (fun b => V₀ b \/ W b) s.heap ->
  (∀ x s' W', Inv B A s' -> Dom s.heap s'.heap -> Ext W s.heap W' s'.heap -> Stm B V₀ W' s'.heap env Γ' -> XAt B.n₀ s.heap s'.heap (fun b => V₀ b \/ W' b) false (c || cxOf A) x -> E (.ref x) s') -> wpAny B.M A (exec st env) Q E s
structure ExT (B : Base) (k : Nat) (K : Kinds) (Γ : G) (ss : List Stmt) (o : Out) (Γ' : G) : Prop where
  run : ∀ (A : Around) (env : Env) (V₀ W : Addr -> Prop) (s : Shared) (Q : Flow -> Shared -> Prop) (E : Value -> Shared -> Prop),
  Room k A -> EnvOk K env -> Inv B A s -> Stm B V₀ W s.heap env Γ -> AtTop A env ->
  (∀ fl s' W', Inv B A s' -> Dom s.heap s'.heap -> Ext W s.heap W' s'.heap -> Stm B V₀ W' s'.heap env Γ' -> OutIs B (fun b => V₀ b \/ W' b) s'.heap o fl -> Q fl s') -> wpAny B.M A (execs ss env) Q E s
structure ExT1 (B : Base) (k : Nat) (K : Kinds) (Γ : G) (st : Stmt) (o : Out) (Γ' : G) : Prop where
  run : ∀ (A : Around) (env : Env) (V₀ W : Addr -> Prop) (s : Shared) (Q : Flow -> Shared -> Prop) (E : Value -> Shared -> Prop),
  Room k A -> EnvOk K env -> Inv B A s -> Stm B V₀ W s.heap env Γ -> AtTop A env ->
  (∀ fl s' W', Inv B A s' -> Dom s.heap s'.heap -> Ext W s.heap W' s'.heap -> Stm B V₀ W' s'.heap env Γ' -> OutIs B (fun b => V₀ b \/ W' b) s'.heap o fl -> Q fl s') -> wpAny B.M A (exec st env) Q E s
section
variable {B : Base} {k : Nat} {K : Kinds} {Γ Γ' : G} {A : Around} {s : Shared} {env : Env} {V : Addr -> Prop}
theorem Ex.t {ss : List Stmt} {o : Out} (x : Ex B k K Γ ss o Γ') : ExT B k K Γ ss o Γ' := .mk fun A env V₀ W s Q E rm eo i st _ h => x.run A env V₀ W s Q E rm eo i st h
theorem Ex1.t {ss : Stmt} {o : Out} (x : Ex1 B k K Γ ss o Γ') : ExT1 B k K Γ ss o Γ' := .mk fun A env V₀ W s Q E rm eo i st _ h => x.run A env V₀ W s Q E rm eo i st h
theorem ExT.cons {Γ₁ Γ₂ : G} {st : Stmt} {ss : List Stmt} {o : Out} (x : ExT1 B k K Γ st .next Γ₁) (y : ExT B k K Γ₁ ss o Γ₂) : ExT B k K Γ (st :: ss) o Γ₂ :=
  .mk fun A env V₀ W s Q E r eo i z tp h => wpAny_execs_cons (x.run A env V₀ W s _ E r eo i z tp fun fl s' W' i' dm ex z' ou => by
    obtain rfl : fl = .next := ou
    exact y.run A env V₀ W' s' Q E r eo i' z' tp fun fl s'' W'' i'' dm' ex' z'' ou' => h fl s'' W'' i'' (dm.trans dm') (ex.trans ex' dm) z'' ou')
theorem ExT.stop {Γ₁ : G} {st : Stmt} {ss : List Stmt} {o : Out} (x : ExT1 B k K Γ st o Γ₁) (ho : o ≠ .next) : ExT B k K Γ (st :: ss) o Γ₁ :=
  .mk fun A env V₀ W s Q E r eo i z tp h => wpAny_execs_cons (x.run A env V₀ W s _ E r eo i z tp fun fl s' W' i' dm ex z' ou => by
    have := h fl s' W' i' dm ex z' ou
    cases o with
    | next => exact absurd rfl ho
    | brk => obtain rfl : fl = .brk := ou; exact this
    | ret d => (refine byEA (ou) fun v hq1 _ => ?_; (try clear ou); subst hq1); exact this)
theorem ExT.nil : ExT B k K Γ [] .next Γ := Ex.nil.t
theorem ExT.weak {Γ₂ : G} {stm : List Stmt} {o : Out} (x : ExT B k K Γ stm o Γ') (hw : ∀ y sl, Γ₂.lookup y = some sl -> Γ'.lookup y = some sl) : ExT B k K Γ stm o Γ₂ := .mk fun A env V₀ W s Q E rm eo i st tp h =>
  x.run A env V₀ W s Q E rm eo i st tp fun fl s' W' i' d e st' ou => h fl s' W' i' d e (st'.weak hw) ou
theorem ExT.share {ss : List Stmt} {o : Out} {x : Str} {d : D} (y : ExT B k K (put Γ x (.sh d)) ss o Γ') (hx : Γ.lookup x = some (.own none d)) : ExT B k K Γ ss o Γ' := .mk fun A env V₀ W s Q E rm eo i st tp h => by
  refine byEA (st.share hx) fun W' hw st' => ?_
  exact y.run A env V₀ W' s Q E rm eo i st' tp fun fl s' W'' i' dm ex st'' ou => h fl s' W'' i' dm ⟨fun b q => (ex.new b q).imp (hw b) id, fun b o nb e => ex.kp b o (fun q => nb (hw b q)) e⟩ st'' ou
theorem ExX.head {st : Stmt} {ss : List Stmt} {c : Bool} (x : ExX1 B k K Γ st c Γ') : ExX B k K Γ (st :: ss) c Γ' := .mk fun A env V₀ W s Q E rm eo i st tp cr h =>
  wpAny_execs_cons (x.run A env V₀ W s _ E rm eo i st tp cr h)
theorem ExX.tail {Γ₁ : G} {st : Stmt} {ss : List Stmt} {c : Bool} (x : Ex1 B k K Γ st .next Γ₁) (y : ExX B k K Γ₁ ss c Γ') : ExX B k K Γ (st :: ss) c Γ' := .mk fun A env V₀ W s Q E rm eo i z tp cr h =>
  wpAny_execs_cons (x.run A env V₀ W s _ E rm eo i z fun fl s' W' i' dm ex z' ou => by
    obtain rfl : fl = .next := ou
    exact y.run A env V₀ W' s' Q E rm eo i' z' tp (cr.ext ex) fun x s'' W'' i'' dm' ex' z'' xa => h x s'' W'' i'' (dm.trans dm') (ex.trans ex' dm) z'' (xa.older dm))
theorem ExX1.ife {t : Expr} {b e : List Stmt} {p : Pos} {c q : Bool} (x : EvT B k K Γ t c) (y : c = true -> ExX B k K Γ b q Γ') (z : c = false -> ExX B k K Γ e q Γ') : ExX1 B k K Γ (.If t b e p) q Γ' := .mk fun A env V₀ W s Q E rm eo i st tp cr h => by
  refine wpAny_If (x.run A env _ s _ E rm eo i st.r fun s₁ i₁ k₁ => ?_)
  have go : ∀ ss, ExX B k K Γ ss q Γ' -> wpAny B.M A (execs ss env) Q E s₁ := fun ss w => w.run A env V₀ W s₁ Q E rm eo i₁ (st.kp k₁) tp (cr.kp k₁) fun fl s₂ W₂ i₂ d₂ e₂ st₂ xa => h fl s₂ W₂ i₂ (k₁.dom.trans d₂) ((Ext.of_kp k₁).trans e₂ k₁.dom) st₂ (xa.older k₁.dom)
  cases c with
  | true => rw [if_pos rfl]; exact go _ (y rfl)
  | false => rw [if_neg (by simp)]; exact go _ (z rfl)
theorem ExX1.assign {t value : Expr} {p : Pos} (x : EvX B k K Γ value)
    (hsw : ∀ env, swapsWithSole [t] value p.line env = pure false := by intro _; rfl) (hst : ∀ env, swappedStores [t] value env = pure none := by intro _; rfl) : ExX1 B k K Γ (.Assign [t] value p) false Γ := .mk fun A env V₀ W s Q E rm eo i st tp cr h =>
  wpAny_Assign_stores (x.run A env _ s _ E rm eo i st.r cr fun x s₁ i₁ k₁ xa => h x s₁ W i₁ k₁.dom (.of_kp k₁) (st.kp k₁) xa) (hsw env) (hst env)
theorem sub_x {prog : Program} {w : World} {A : Around} {E : Value -> Shared -> Prop} {s : Shared} {value slice : Expr} {o i : Value} {T id : String} {Q : Value -> Shared -> Prop} (hT : s.TypeIs o T)
    (hl : typeLookup (.type T) "__getitem__" = pure (some (.builtin id))) (h : wpAny (model prog w) A (getItem o i) (fun _ _ => False) E s)
    {ops : List Value} (hs : subscripted slice false o i = operate ops (getItem o i)) :
    wpAny (model prog w) A (subscriptTail value slice o i) Q E s := sub_tail hT hl (wpAny_mono h (fun _ _ f => f.elim) fun _ _ e => e) hs
theorem EvX.sub (O : B.Ok) {value slice : Expr} {p : Pos} {l : List D} {n : Int} (x : EvB B k K Γ value (.list l)) (y : EvB B k K Γ slice (.int n)) (hn : (l.length : Int) <= n) (hz : n < 2 ^ 63) (hs : notSlice slice = true := by rfl) : EvX B k K Γ (.Subscript value slice p) :=
  .mk fun A env V s Q E rm eo i g cr h => Subscript_ (x.run A env V s _ E rm eo i g fun v₁ s₁ i₁ k₁ l₁ => y.run A env V s₁ _ E rm eo i₁ (g.kp k₁) fun v₂ s₂ i₂ k₂ l₂ => by
    (refine byEEA ((l₁.kp k₂).asList) fun a items hq2 hr3 => ?_; subst hq2; refine byA (hr3) fun il ls => ?_; (try clear hr3))
    (refine byE (l₂.asInt) fun t hq4 => ?_; subst hq4)
    have g₂ := (g.kp k₁).kp k₂
    have k' := k₁.trans k₂
    refine sub_x il.isList.typeIs F.slot_list_getitem.lookup (x_item (V := V) O i₂ (cr.kp k') g₂.dom il.isList (by rw [show items.size = l.length by rw [<- ls.length]; simp]; exact hn) hz fun h' tk e kp xa => ?_) (subscripted_plain hs _ _)
    exact h e _ (i₂.keep O kp) (k'.trans (.of kp)) (xa.older k'.dom))
theorem EvTX.cmp {l r : Expr} {op : CmpOp} {p : Pos} (x : EvX B k K Γ l) (hm : behindInMarks op r = false := by rfl) : EvTX B k K Γ (.Compare l [op] [r] p) :=
  .mk fun A env V s Q E rm o i g cr h => wpAny_isTrue_Compare1 (x.run A env V s _ E rm o i g cr h) hm
theorem x_back {A' : Around} (O : B.Ok) (i : Inv B A' s) (tp : AtTop A' env) {h₀ : Heap} {tb cx : Bool} {e : Addr} (x : XAt B.n₀ h₀ s.heap V tb cx e) (old : Dom h₀ s.heap) (hV : ∀ b, V b -> ∃ o, s.heap.get? b = some o) {E : Value -> Shared -> Prop}
    (hQ : ∀ h', XCh B.n₀ h₀ s.heap h' -> XAt B.n₀ h₀ h' V false cx e -> E (.ref e) { s with heap := h' }) : notedBy B.M A' env (cameBackBy B.M A env E) (.ref e) s := by
  refine x_note O i tp x old hV fun h₁ x₁ a₁ => ?_
  (refine byEEAAA (a₁.there) fun oe vs he hc hd hr5 => ?_; refine byAA (hr5) fun hsz hcx h6 => ?_; (try clear hr5))
  (refine byEE (h6.resolve_left fun q => by cases q.1) fun T oT hr6 => ?_; refine byEA (hr6) fun ts t1 _ => ?_; (try clear hr6))
  refine wpAny_bind (m := field (.ref e) 1) (wpAny_field (s := { s with heap := h₁ }) he hd t1 ?_)
  rw [if_neg (by simp)]
  exact x_flight (s := { s with heap := h₁ }) a₁ fun h₂ x₂ a₂ => hQ h₂ (x₁.trans x₂) a₂.any
theorem ExX1.while_ (O : B.Ok) {test : Expr} {body : List Stmt} {p : Pos} (x : EvTX B k K Γ test) : ExX1 B k K Γ (.While test body [] p) false Γ := .mk fun A env V₀ W s Q E rm eo i st tp cr h => by
  refine wpAny_While (codeAny_whileLoop (prog := B.prog) (w := B.w) (fun n s' => s' = s) ?_ 0 rfl)
  rintro n s' rfl
  refine x.run A env _ s' _ _ rm eo i st.r cr fun x s₁ i₁ k₁ xa => ?_
  have g₁ := st.kp k₁
  exact x_back O i₁ tp xa k₁.dom g₁.r.dom fun h' xc xa' => h x { s₁ with heap := h' } W (i₁.xch O (tk := s₁.toks) xc) (k₁.dom.trans xc.dom) (xc.ext (Ext.of_kp k₁)) (g₁.kq xc.kq) xa'
theorem Ex1.whileNo {test : Expr} {body : List Stmt} {p : Pos} (x : EvT B k K Γ test false) : Ex1 B k K Γ (.While test body [] p) .next Γ := .mk fun A env V₀ W s Q E rm eo i st h => by
  refine wpAny_While (codeAny_whileLoop (prog := B.prog) (w := B.w) (fun n s' => s' = s) ?_ 0 rfl)
  rintro n s' rfl
  refine x.run A env _ s' _ _ rm eo i st.r fun s₁ i₁ k₁ => ?_
  rw [if_neg (by simp)]
  exact wpAny_execs_nil (h .next s₁ W i₁ k₁.dom (.of_kp k₁) (st.kp k₁) rfl)
theorem Room.mark (r : Room k A) (m : Option Value) : Room 0 (A.mark m) := ⟨by have := r.depth; show A.depth + 0 < 1000; omega, by have := r.units; show A.units + 40 * 0 + 100 < 9900; omega, fun z => absurd z (Nat.lt_irrefl 0)⟩
theorem Ex1.finally_ {body : List Stmt} {f₀ : Stmt} {fs : List Stmt} {p : Pos} {Γ₁ : G} (x : Ex B k K Γ body .next Γ₁) (y : Ex B k K Γ₁ (f₀ :: fs) .next Γ') : Ex1 B k K Γ (.Try body [] [] (f₀ :: fs) p) .next Γ' := .mk fun A env V₀ W s Q E rm eo i st h => by
  refine wpAny_Try_finally (prog := B.prog) (w := B.w) (x.run A env V₀ W s _ _ rm eo i st fun fl s₁ W₁ i₁ d₁ e₁ st₁ ou => ?_)
  obtain rfl : fl = .next := ou
  refine wpAny_execs_nil (y.run A env V₀ W₁ s₁ _ _ rm eo i₁ st₁ fun fl s₂ W₂ i₂ d₂ e₂ st₂ ou => ?_)
  obtain rfl : fl = .next := ou
  exact h .next s₂ W₂ i₂ (d₁.trans d₂) (e₁.trans e₂ d₁) st₂ rfl
theorem ExX1.finR (O : B.Ok) {body : List Stmt} {f₀ : Stmt} {fs : List Stmt} {p : Pos} {Γ₁ : G} {c : Bool} (x : Ex B k K Γ body .next Γ₁) (y : ExX B k K Γ₁ (f₀ :: fs) c Γ') : ExX1 B k K Γ (.Try body [] [] (f₀ :: fs) p) c Γ' := .mk fun A env V₀ W s Q E rm eo i st tp cr h => by
  refine wpAny_Try_finally (prog := B.prog) (w := B.w) (x.run A env V₀ W s _ _ rm eo i st fun fl s₁ W₁ i₁ d₁ e₁ st₁ ou => ?_)
  obtain rfl : fl = .next := ou
  refine wpAny_execs_nil (y.run A env V₀ W₁ s₁ _ _ rm eo i₁ st₁ tp (cr.ext e₁) fun x s₂ W₂ i₂ d₂ e₂ st₂ xa => ?_)
  exact x_back O i₂ tp xa d₂ st₂.r.dom fun h' xc xa' => h x { s₂ with heap := h' } W₂ (i₂.xch O (tk := s₂.toks) xc) ((d₁.trans d₂).trans xc.dom) ((xc.older d₁).ext (e₁.trans e₂ d₁)) (st₂.kq xc.kq) (xa'.older d₁)
theorem x_fin (O : B.Ok) (rm : Room (k + 1) A) (i : Inv B A s) {V₀ W : Addr -> Prop} (st : Stm B V₀ W s.heap env Γ) (tp : AtTop A env) {h₀ : Heap} {x : Addr} (xa : XAt B.n₀ h₀ s.heap (fun b => V₀ b \/ W b) false (cxOf A) x) (old : Dom h₀ s.heap)
    {f₀ : Stmt} {fs : List Stmt} {Q : Flow -> Shared -> Prop} {E : Value -> Shared -> Prop}
    (h : ∀ s₁, Inv B (A.mark (some (.ref x))) s₁ -> XCh B.n₀ h₀ s.heap s₁.heap -> Stm B V₀ W s₁.heap env Γ -> CanR (A.mark (some (.ref x))) (fun b => V₀ b \/ W b) s₁.heap -> XAt B.n₀ h₀ s₁.heap (fun b => V₀ b \/ W b) true false x ->
      wpAny B.M (A.mark (some (.ref x))) (execs (f₀ :: fs) env) (fun g s₂ => match g with | .next => wpAny B.M A (PySem.passOn "try.finally" (.ref x) env) Q E s₂ | g => wpAny B.M A (setFlight (.ref x) none) (fun _ s₃ => Q g s₃) E s₂) (notedBy B.M (A.mark (some (.ref x))) env (cameBackBy B.M A env E)) s₁) :
    wpAny B.M A (noteFrame (.ref x) env) (fun _ s₂ => FinallyRaised B.prog B.w A E env (f₀ :: fs) Q (.ref x) s₂) (FinallyRaised B.prog B.w A E env (f₀ :: fs) Q) s := by
  have hn := rm.handled (Nat.succ_pos _)
  have hcx : cxOf A = false := by unfold cxOf; rw [hn]; rfl
  rw [hcx] at xa
  refine x_note O i tp xa old st.r.dom fun h₁ x₁ a₁ => ⟨ref_ne_byPass x, ?_⟩
  have st₁ := st.kq x₁.kq
  refine x_note (s := { s with heap := h₁ }) O (i.xch O (tk := s.toks) x₁) tp a₁ (old.trans x₁.dom) st₁.r.dom fun h₂ x₂ a₂ => ?_
  refine x_flight (s := { s with heap := h₂ }) a₂ fun h₃ x₃ a₃ => ?_
  have xx := (x₁.trans x₂).trans x₃
  refine h { s with heap := h₃ } ((i.xch O (tk := s.toks) xx).mark _) xx (st.kq xx.kq) (.inr ?_) a₃
  (refine byEEAAA (a₃.there) fun oe vs he hc hd hr7 => ?_; refine byAA (hr7) fun hsz hc2 _ => ?_; (try clear hr7))
  exact ⟨x, oe, vs, rfl, a₃.off, he, hc, hd, hc2 rfl⟩
theorem ExX1.finBR (O : B.Ok) {body : List Stmt} {f₀ : Stmt} {fs : List Stmt} {p : Pos} {Γ₁ : G} {c : Bool} (x : ExX B (k + 1) K Γ body false Γ₁) (y : ExX B 0 K Γ₁ (f₀ :: fs) c Γ') : ExX1 B (k + 1) K Γ (.Try body [] [] (f₀ :: fs) p) true Γ' := .mk fun A env V₀ W s Q E rm eo i st tp cr h => by
  refine wpAny_Try_finally (prog := B.prog) (w := B.w) (x.run A env V₀ W s _ _ rm eo i st tp cr fun x s₁ W₁ i₁ d₁ e₁ st₁ xa => ?_)
  refine x_fin O rm i₁ st₁ tp xa d₁ fun s₂ i₂ x₂ st₂ cr₂ a₂ => ?_
  refine y.run _ env V₀ W₁ s₂ _ _ (rm.mark _) eo i₂ st₂ tp cr₂ fun x₃ s₃ W₃ i₃ d₃ e₃ st₃ xa₃ => ?_
  refine x_back (A := A) O i₃ tp xa₃ d₃ st₃.r.dom fun h₄ x₄ a₄ => ?_
  have ee := x₂.ext e₁
  have dd := d₁.trans x₂.dom
  exact h x₃ { s₃ with heap := h₄ } W₃ (i₃.unmark.xch O (tk := s₃.toks) x₄) ((dd.trans d₃).trans x₄.dom) ((x₄.older dd).ext (ee.trans e₃ dd)) (st₃.kq x₄.kq) (a₄.cx.older dd)
theorem ExT1.caught (O : B.Ok) {body suite : List Stmt} {b₀ : Stmt} {p p' p'' : Pos} {Γ₁ : G} {o : Out} {c : Bool} (x : ExX B (k + 1) K Γ body c Γ₁) (y : Ex B 0 K Γ₁ (b₀ :: suite) o Γ') (bt : BltAt B "IndexError" (.type "IndexError")) (hK : K "IndexError" = some .globalImplicit) :
    ExT1 B (k + 1) K Γ (.Try body [.ExceptHandler (some (.Name "IndexError" p'')) none (b₀ :: suite) p'] [] [] p) o Γ' := .mk fun A env V₀ W s Q E rm eo i st tp h => by
  have hn := rm.handled (Nat.succ_pos _)
  refine wpAny_Try_except (prog := B.prog) (w := B.w) (x.run A env V₀ W s _ _ rm eo i st tp (.inl hn) fun x s₁ W₁ i₁ d₁ e₁ st₁ xa => ?_)
  refine x_note O i₁ tp xa d₁ st₁.r.dom fun h₂ x₂ a₂ => ?_
  refine x_flight (s := { s₁ with heap := h₂ }) a₂ fun h₃ x₃ a₃ => ?_
  have x₂₃ := x₂.trans x₃
  have i₃ : Inv B A { s₁ with heap := h₃ } := i₁.xch O (tk := s₁.toks) x₂₃
  have st₃ := st₁.kq x₂₃.kq
  refine wpAny_handleBy_builtin (b := true) (X := "IndexError") F.isExc_IndexError F.notTuple_IndexError F.self_IndexError (glob_blt O bt hK eo (i₃.mark (some (.ref x))) ⟨rfl, ?_, ?_⟩)
  · refine byEEAA (a₃.there) fun oe vs he hc _ => ?_
    exact ⟨oe, he, hc⟩
  · rw [if_pos rfl]
    refine x_flight (s := { s₁ with heap := h₃ }) a₃ fun h₄ x₄ a₄ => ?_
    have xx := x₂₃.trans x₄
    refine y.run _ env V₀ W₁ { s₁ with heap := h₄ } _ _ (rm.mark _) eo ((i₁.xch O (tk := s₁.toks) xx).mark _) (st₁.kq xx.kq) fun fl s₅ W₅ i₅ d₅ e₅ st₅ ou => ?_
    have dd := d₁.trans xx.dom
    exact h fl s₅ W₅ i₅.unmark (dd.trans d₅) ((xx.ext e₁).trans e₅ dd) st₅ ou
theorem ExT1.try_ {body : List Stmt} {h₀ : ExceptHandler} {hs : List ExceptHandler} {p : Pos} {o : Out} (y : ExT B k K Γ body o Γ') : ExT1 B k K Γ (.Try body (h₀ :: hs) [] [] p) o Γ' := .mk fun A env V₀ W s Q E rm eo i st tp h => by
  refine wpAny_Try_except (prog := B.prog) (w := B.w) (y.run A env V₀ W s _ _ rm eo i st tp fun fl s' W' i' d' e' st' ou => ?_)
  have hh := h fl s' W' i' d' e' st' ou
  cases o with
  | next => obtain rfl : fl = .next := ou; exact wpAny_execs_nil hh
  | brk => obtain rfl : fl = .brk := ou; exact hh
  | ret d => (refine byEA (ou) fun v hq10 _ => ?_; (try clear ou); subst hq10); exact hh
inductive WLoop (B : Base) (k : Nat) (K : Kinds) (body : List Stmt) : Nat -> G -> G -> Prop
  | brk {X X₁ : G} : ExT B k K X body .brk X₁ -> WLoop B k K body 0 X X₁
  | turn {n : Nat} {X X₁ X₂ : G} : ExT B k K X body .next X₁ -> WLoop B k K body n X₁ X₂ -> WLoop B k K body (n + 1) X X₂
theorem ExT1.whileTrue {test : Expr} {body : List Stmt} {p : Pos} {n : Nat} (w : WLoop B k K body n Γ Γ') (ht : ∀ X, EvT B k K X test true) : ExT1 B k K Γ (.While test body [] p) .next Γ' := .mk fun A env V₀ W s Q E rm eo i st tp h => by
  refine wpAny_While (codeAny_whileLoop (prog := B.prog) (w := B.w) (fun n s' => ∃ W' X, Inv B A s' /\ Dom s.heap s'.heap /\ Ext W s.heap W' s'.heap /\ Stm B V₀ W' s'.heap env X /\ WLoop B k K body n X Γ') ?_ n ⟨W, Γ, i, .refl _, .refl _ _, st, w⟩)
  rintro n s₁ ⟨W₁, X, i₁, d₁, e₁, st₁, w₁⟩
  refine (ht X).run A env _ s₁ _ _ rm eo i₁ st₁.r fun s₂ i₂ k₂ => ?_
  rw [if_pos rfl]
  have d₂ := d₁.trans k₂.dom
  have e₂ := e₁.trans (Ext.of_kp (W := W₁) k₂) d₁
  cases w₁ with
  | brk y =>
    refine y.run A env V₀ W₁ s₂ _ _ rm eo i₂ (st₁.kp k₂) tp fun fl s₃ W₃ i₃ d₃ e₃ st₃ ou => ?_
    obtain rfl : fl = .brk := ou
    exact h .next s₃ W₃ i₃ (d₂.trans d₃) (e₂.trans e₃ d₂) st₃ rfl
  | turn y w₂ =>
    refine y.run A env V₀ W₁ s₂ _ _ rm eo i₂ (st₁.kp k₂) tp fun fl s₃ W₃ i₃ d₃ e₃ st₃ ou => ?_
    obtain rfl : fl = .next := ou
    exact ⟨_, Nat.lt_succ_self _, W₃, _, i₃, d₂.trans d₃, e₂.trans e₃ d₂, st₃, w₂⟩
theorem Ex.top {ss : List Stmt} {o : Out} (x : ExT B k K Γ ss o Γ') (A : Around) (env : Env) (V₀ W : Addr -> Prop) (s : Shared) (Q : Flow -> Shared -> Prop) (E : Value -> Shared -> Prop) (rm : Room k (A.deeper env)) (eo : EnvOk K env) (i : Inv B (A.deeper env) s) (st : Stm B V₀ W s.heap env Γ)
    (h : ∀ fl s' W', Inv B (A.deeper env) s' -> Dom s.heap s'.heap -> Ext W s.heap W' s'.heap -> Stm B V₀ W' s'.heap env Γ' -> OutIs B (fun b => V₀ b \/ W' b) s'.heap o fl -> Q fl s') : wpAny B.M (A.deeper env) (execs ss env) Q E s := by
  refine x.run _ env V₀ W s Q E rm eo i st ?_ h
  refine byEA (i.fr) fun l e _ => ?_
  have e' : A.frames.map (env :: ·) = some l := e
  refine byEA (Option.map_eq_some_iff.mp e') fun l' e1 e2 => ?_
  exact ⟨l', env.locals, by show A.frames.map (env :: ·) = _; rw [e1]; rfl, st.frame⟩
theorem Calls.ofT (O : B.Ok) {name : Str} {params : Arguments} {body : List Stmt} {scope : Scope} {ds ds' : List D} {xs : List Str} {o : Out} {Γ' : G} (F : FnAt B name params body scope) (hb : Binds B name params body scope ds xs ds') (hbrk : o ≠ .brk)
    (y : ExT B k (fun y => scope.names.lookup y) (putAll [] xs ds') body o Γ') (hl : xs.length = ds'.length := by rfl) (hx : ∀ x ∈ xs, scope.names.lookup x = some .local \/ scope.names.lookup x = some .cell := by decide)
    (hk : scope.kind = .function := by rfl) (hco : scope.isCoroutine = false := by rfl) (hgen : scope.isGenerator = false := by rfl) : Calls B (k + 1) name ds o.val := fun A V s vs Q E rm i dm ls h => by
  (refine byEE (F) fun a pm hr11 => ?_; (try clear F); refine byEEA (hr11) fun cd doc hm hh => ?_; (try clear hr11))
  refine ⟨a, hm, wpAny_call ?_⟩
  (refine byA (hh _ i.good) fun hp12 hcd => ?_; obtain ⟨ob, hob, hod⟩ := hp12)
  refine codeAny_call_function (body := body) (fd := docDef name params body scope pm cd doc) (prog := B.prog) (w := B.w) (by have := rm.depth; show A.depth < 1000; omega) hob hod hco hgen rfl hcd ?_
  refine hb pm cd doc A.in1 V s vs _ _ i.in1 dm ls fun vs' s₁ i₁ k₁ l₁ => ?_
  refine fn_frame O hk i₁ (fun b hb' => let ⟨o', e, n⟩ := dm b hb'; (k₁ b o' e).q.ex n) l₁ hl hx fun env s₂ W he i₂ k₂ wn eo st => ⟨O.nolimit _ i₂.good, ?_⟩
  have i₃ : Inv B (A.deeper env) s₂ := Inv.deeper i₂.of_in1 eo st
  refine codeAny_func (prog := B.prog) (w := B.w) (Ex.top y A env V W s₂ _ _ (rm.deeper env) eo i₃ st fun fl s₄ W₄ i₄ d₄ e₄ st₄ ou => ?_)
  have kk : Kp s.heap s₄.heap := (k₁.trans k₂).trans_off e₄.kp fun b o e q => by
    cases e1 : s₁.heap.get? b with
    | none => refine byE ((k₁ b o e).ex) fun _ z => ?_; rw [e1] at z; cases z
    | some _ => rw [wn b q] at e1; cases e1
  cases o with
  | next =>
    obtain rfl : fl = .next := ou
    exact h .none s₄ i₄.shallow kk rfl
  | brk => exact absurd rfl hbrk
  | ret d =>
    (refine byEA (ou) fun v hq13 lv => ?_; (try clear ou); subst hq13)
    exact h v s₄ i₄.shallow kk (lv.mono fun b o nb e _ => ⟨fun q => nb (.inl q), e⟩)
theorem ExT1.whileEx {test : Expr} {body : List Stmt} {p : Pos} (w : ∃ n, WLoop B k K body n Γ Γ') (ht : ∀ X, EvT B k K X test true) : ExT1 B k K Γ (.While test body [] p) .next Γ' := let ⟨_, w⟩ := w; .whileTrue w ht
theorem lkNil : ∀ y s, ([] : G).lookup y = some s -> Γ.lookup y = some s := fun y s h => by cases h
theorem lkCons {Γ₂ : G} {x : Str} {sl : Slot} (h : Γ.lookup x = some sl) (t : ∀ y s, Γ₂.lookup y = some s -> Γ.lookup y = some s) : ∀ y s, ((x, sl) :: Γ₂ : G).lookup y = some s -> Γ.lookup y = some s := fun y s e => by
  simp only [List.lookup] at e
  split at e
  · rename_i he; rw [beq_iff_eq.mp he, h]; exact e
  · exact t y s e
end
open PySem.SeqAt (EqAt RcAt RcNeAt)
section
variable {B : Base} {k : Nat} {K : Kinds} {Γ Γ' : G} {V V' W : Addr -> Prop} {h h' : Heap} {env : Env} {A : Around} {s : Shared}
theorem tup_core {l l' : List D} {i i' : Array Value} (x : Lays B V s.heap l i.toList) (y : Lays B V' s.heap l' i'.toList) (eq : EqsAt A.in1 s l l' i.toList i'.toList) :
    ∃ e : Nat -> Bool, (((List.range (min i.size i'.size)).all e && i.size == i'.size) = true ↔ l = l') /\ ∀ j (h1 : j < i.size) (h2 : j < i'.size), EqAt A.in1 s i[j] i'[j] (e j) := by
  have z1 : i.size = l.length := by rw [<- x.length]; simp
  have z2 : i'.size = l'.length := by rw [<- y.length]; simp
  refine byE eq fun e he => ?_
  have lk : ∀ j (h1 : j < i.size) (h2 : j < i'.size), ∃ d d', l[j]? = some d /\ l'[j]? = some d' /\ i.toList[j]? = some i[j] /\ i'.toList[j]? = some i'[j] := fun j h1 h2 =>
    ⟨l[j]'(z1 ▸ h1), l'[j]'(z2 ▸ h2), List.getElem?_eq_getElem _, List.getElem?_eq_getElem _, List.getElem?_eq_getElem h1, List.getElem?_eq_getElem h2⟩
  refine ⟨e, ?_, fun j h1 h2 => ?_⟩
  · rw [Bool.and_eq_true, List.all_eq_true, beq_iff_eq]
    constructor
    · intro ⟨hall, hsz⟩
      apply List.ext_getElem?
      intro j
      by_cases hj : j < i.size
      · refine byEEAAA (lk j hj (hsz ▸ hj)) fun d d' e1 e2 e3 e4 => ?_
        rw [e1, e2, ((he j _ _ d d' e1 e2 e3 e4).1.mp (hall j (List.mem_range.mpr (by rw [<- hsz, Nat.min_self]; exact hj))))]
      · rw [List.getElem?_eq_none (z1 ▸ Nat.not_lt.mp hj), List.getElem?_eq_none (by rw [<- z2, <- hsz]; exact Nat.not_lt.mp hj)]
    · intro hll
      refine ⟨fun j hj => ?_, by rw [z1, z2, hll]⟩
      have hj := List.mem_range.mp hj
      refine byEEAAA (lk j (Nat.lt_of_lt_of_le hj (Nat.min_le_left _ _)) (Nat.lt_of_lt_of_le hj (Nat.min_le_right _ _))) fun d d' e1 e2 e3 e4 => ?_
      refine (he j _ _ d d' e1 e2 e3 e4).1.mpr ?_
      rw [hll, e2] at e1; injection e1 with e1; exact e1.symm
  · refine byEEAAA (lk j h1 h2) fun d d' e1 e2 e3 e4 => ?_
    exact (he j _ _ d d' e1 e2 e3 e4).2
end
section
variable {B : Base} {k : Nat} {K : Kinds} {Γ Γ' : G} {V V' V₀ W : Addr -> Prop} {h h' : Heap} {env : Env} {A : Around} {s : Shared}
theorem Meth.pop : Meth "list" "pop" "list.pop" := ⟨PySem.F.plainAttrs_list, PySem.F.slot_list_pop, PySem.F.type_list_pop⟩
theorem Lays.erase : ∀ {l : List D} {vs : List Value} (n : Nat), Lays B V h l vs -> Lays B V h (l.eraseIdx n) (vs.eraseIdx n)
  | [], vs, n, x => by simp only [Lays] at x; subst x; exact (rfl : ([] : List Value) = [])
  | d :: l, vs, 0, x => by
    simp only [Lays] at x
    refine byEEAA x fun v r hq _ y => ?_
    subst hq
    exact y
  | d :: l, vs, n + 1, x => by
    simp only [Lays] at x
    refine byEEAA x fun v r hq z y => ?_
    subst hq
    rw [List.eraseIdx_cons_succ, List.eraseIdx_cons_succ]
    simp only [Lays]
    exact ⟨v, _, rfl, z, y.erase n⟩
theorem seq_nat {n m : Nat} (h : n < m) : seqIndex? (n : Int) m = some n := by
  unfold seqIndex?
  simp; omega
theorem fits_nat {n m : Nat} (h : n < m) (hm : m <= sizeLine) : Builtin.List.listFitsIndex (n : Int) = true := by
  have big : sizeLine = 16777216 := rfl
  unfold Builtin.List.listFitsIndex
  simp
  omega
theorem MutR.pop (O : B.Ok) {l : List D} {n : Nat} {d : D} (hd : l[n]? = some d) (hz : l.length ≤ sizeLine) : MutR B k (.builtin "list.pop") (.list l) [.int n] (.list (l.eraseIdx n)) d := fun A V s a vs Q E rm i dm va lo c ls h => by
  refine byEA c fun its hp ll => ?_
  simp only [Lays] at ls
  refine byEEAA ls fun v r hq hi hr => ?_
  subst hq hr
  refine byE hi fun t hq => ?_
  subst hq
  refine byE (id hp) fun m ho => ?_
  have z1 : its.size = l.length := by rw [<- ll.length]; simp
  have hn : n < l.length := (List.getElem?_eq_some_iff.mp hd).1
  have hn' : n < its.size := z1 ▸ hn
  refine byEA (ll.get hd) fun w hw lw => ?_
  rw [Array.getElem?_toList] at hw
  have hs : seqIndex? (n : Int) its.size = some n := seq_nat hn'
  have hf : Builtin.List.listFitsIndex (n : Int) = true := fits_nat hn hz
  obtain ⟨x, hx⟩ : ∃ x : Int, x = n := ⟨_, rfl⟩
  rw [<- hx] at hs hf ⊢
  refine byAA (mut_list O i (l' := l.eraseIdx n) va lo hp (Heap.SameBut.update ..) (plain_update (fun x => x.eraseIdxIfInBounds n) ho) (by
    have e : (its.eraseIdxIfInBounds n).toList = its.toList.eraseIdx n := by
      unfold Array.eraseIdxIfInBounds
      rw [dif_pos hn', Array.toList_eraseIdx]
    rw [e]; exact ll.erase n) s.toks) fun i' k' c' => ?_
  have q2 : its.size <= sizeLine := z1 ▸ hz
  have hm := PySem.MeetsSeq.list_pop_at a its m x t n w hf hs hw q2
  refine call_meets PySem.F.slot_list_pop ⟨_, ho, rfl⟩ PySem.F.entry_list_pop (PySem.F.args_list_pop_2 _ _) hm ⟨ho, ?_⟩
  exact h _ _ i' k' c' (lay_off1 lw va k')
end
section
variable {B : Base} {k : Nat} {K : Kinds} {Γ Γ' : G} {V V' V₀ V₁ W : Addr -> Prop} {h h' : Heap} {env : Env} {A : Around} {s : Shared}
structure EvE (π : Env -> Prop) (B : Base) (k : Nat) (K : Kinds) (Γ : G) (e : Expr) (d : D) : Prop where
  run : ∀ (A : Around) (env : Env) (V : Addr -> Prop) (s : Shared) (Q : Value -> Shared -> Prop) (E : Value -> Shared -> Prop),
  π env -> Room k A -> EnvOk K env -> Inv B A s -> EnvR B V s.heap env Γ ->
  (∀ v s', Inv B A s' -> Kp s.heap s'.heap -> Lay B V s'.heap d v -> Q v s') -> wpAny B.M A (eval e env) Q E s
structure EvLE (π : Env -> Prop) (B : Base) (k : Nat) (K : Kinds) (Γ : G) (es : List Expr) (ds : List D) : Prop where
  run : ∀ (p : Pos) (A : Around) (env : Env) (V : Addr -> Prop) (s : Shared) (Q : List Value -> Shared -> Prop) (E : Value -> Shared -> Prop),
  π env -> Room k A -> EnvOk K env -> Inv B A s -> EnvR B V s.heap env Γ ->
  (∀ vs s', Inv B A s' -> Kp s.heap s'.heap -> Lays B V s'.heap ds vs -> Q vs s') -> wpAny B.M A (spliced (backTo p (starEach es env))) Q E s
structure Ex1E (π : Env -> Prop) (B : Base) (k : Nat) (K : Kinds) (Γ : G) (st : Stmt) (o : Out) (Γ' : G) : Prop where
  run : ∀ (A : Around) (env : Env) (V₀ W : Addr -> Prop) (s : Shared) (Q : Flow -> Shared -> Prop) (E : Value -> Shared -> Prop),
  π env -> Room k A -> EnvOk K env -> Inv B A s -> Stm B V₀ W s.heap env Γ ->
  (∀ fl s' W', Inv B A s' -> Dom s.heap s'.heap -> Ext W s.heap W' s'.heap -> Stm B V₀ W' s'.heap env Γ' -> OutIs B (fun b => V₀ b \/ W' b) s'.heap o fl -> Q fl s') ->
  wpAny B.M A (exec st env) Q E s
structure ExE (π : Env -> Prop) (B : Base) (k : Nat) (K : Kinds) (Γ : G) (st : List Stmt) (o : Out) (Γ' : G) : Prop where
  run : ∀ (A : Around) (env : Env) (V₀ W : Addr -> Prop) (s : Shared) (Q : Flow -> Shared -> Prop) (E : Value -> Shared -> Prop),
  π env -> Room k A -> EnvOk K env -> Inv B A s -> Stm B V₀ W s.heap env Γ ->
  (∀ fl s' W', Inv B A s' -> Dom s.heap s'.heap -> Ext W s.heap W' s'.heap -> Stm B V₀ W' s'.heap env Γ' -> OutIs B (fun b => V₀ b \/ W' b) s'.heap o fl -> Q fl s') ->
  wpAny B.M A (execs st env) Q E s
theorem Stm.turn (st : Stm B V₀ W h env Γ) {F : Addr -> Prop} (hV : ∀ b, V₁ b -> V₀ b \/ h.get? b = none \/ F b) (hF : ∀ b o, F b -> h.get? b = some o -> ¬ W b /\ (IsPriv o \/ V₀ b)) (k : ∀ b o, h.get? b = some o -> ¬ F b -> KeptQ h' b o) (hd : ∀ b, V₁ b -> ∃ o, h'.get? b = some o /\ ¬ IsPriv o) : Stm B V₁ W h' env Γ := by
  have kq : ∀ b o, W b -> h.get? b = some o -> KeptQ h' b o := fun b o w e => by
    by_cases f : F b
    · exact absurd w (hF b o f e).1
    · exact k b o e f
  have K : ∀ b o, ¬ (V₀ b \/ W b) -> h.get? b = some o -> IsData o -> ¬ (V₁ b \/ W b) /\ h'.get? b = some o := fun b o nb e i => by
    have nf : ¬ F b := fun f => (hF b o f e).2.elim (fun p => p.1 i) fun v => nb (.inl v)
    refine ⟨fun q => ?_, i.keptQ (k b o e nf)⟩
    rcases q with q | q
    · rcases hV b q with q | q | q
      · exact nb (.inl q)
      · rw [q] at e; cases e
      · exact nf q
    · exact nb (.inr q)
  have lk : ∀ y w, (∃ sl', Γ.lookup y = some sl') -> Looks h env y w -> Looks h' env y w := fun y w hx l => by
    rcases l with ⟨k1, m, lm, e⟩ | ⟨k1, c, lc, cc⟩
    · exact .inl ⟨k1, m, lm.keptQ fun o ho => kq _ o st.loc.1 ho, e⟩
    · exact .inr ⟨k1, c, lc, cc.keptQ fun o ho => kq _ o (st.cells y c (mem_of_lookup lc)).1 ho⟩
  have back : ∀ y w, (∃ sl', Γ.lookup y = some sl') -> Looks h' env y w -> Looks h env y w := fun y w hx l => by
    refine byE hx fun sl' e => ?_
    refine byEA (st.r.vars y sl' e) fun w' l' _ => ?_
    exact (lk y w' ⟨_, e⟩ l').same l ▸ l'
  refine ⟨⟨fun b hb => ?_, fun y sl e => ?_⟩, st.hi, st.frame, ⟨st.loc.1, ?_⟩, fun y c m => ⟨(st.cells y c m).1, ?_⟩, st.apart, st.kinds, fun y a? d w e l => ?_, fun y z ay dy az dz w ey ez ly lz => st.apo y z ay dy az dz w ey ez (back y w ⟨_, ey⟩ ly) (back z w ⟨_, ez⟩ lz)⟩
  · rcases hb with hb | hb
    · exact hd b hb
    · refine byEA (st.r.domP b (.inr hb)) fun o e n => ?_
      exact (kq b o hb e).ex n
  · refine byEA (st.r.vars y sl e) fun w l hh => ?_
    refine ⟨w, lk y w ⟨_, e⟩ l, ?_⟩
    cases sl with
    | sh d => exact Lay.mono K hh
    | own a? d =>
      refine byEAAA hh fun a ea f g c => ?_
      refine byEAA (st.own y a? d w e l) fun a' ea' wa _ => ?_
      rw [ea] at ea'; cases ea'
      exact ⟨a, ea, f, .inr wa, c.mono K fun o ho io => io.keptQ (kq a o wa ho)⟩
  · refine byAEEEAAA st.loc fun wl o es ep h1 h2 h3 h4 => ?_
    rcases kq _ _ wl h1 with q | ⟨_, sl, q⟩ | q
    · exact ⟨o, es, ep, q, h2, h3, h4⟩
    · exact ⟨_, es, ep, q, h2, h3, h4⟩
    · exact absurd h2 q.2.1
  · refine byA (st.cells y c m) fun wc hr => ?_
    refine byE hr fun v c' => ?_
    exact ⟨v, c'.keptQ fun o e => kq _ o wc e⟩
  · refine byEAA (st.own y a? d w e (back y w ⟨_, e⟩ l)) fun a ea wa nv => ?_
    refine ⟨a, ea, wa, fun q v => ?_⟩
    refine byE (st.r.dom a (.inr wa)) fun o eo => ?_
    rcases hV a v with z | z | z
    · exact nv q z
    · rw [z] at eo; cases eo
    · exact (hF a o z eo).1 wa
inductive LoopS (B : Base) (k : Nat) (K : Kinds) (t : Expr) (body : List Stmt) : G -> List D -> G -> Prop
  | done {X : G} : LoopS B k K t body X [] X
  | step {X X₁ X₂ X₃ : G} {d ds} : Asg B k K X t d X₁ -> Ex B k K X₁ body .next X₂ -> LoopS B k K t body X₂ ds X₃ -> LoopS B k K t body X (d :: ds) X₃
noncomputable def zipD : List D -> List D -> List D
  | a :: as, b :: bs => .tup [a, b] :: zipD as bs
  | _, _ => []
structure ZSt (h : Heap) (z TI TO i1 i2 l1 l2 : Addr) (f : Value) (xs ys : Array Value) (i : Nat) : Prop where
  z : IsZip h z TI TO f
  TI : IsPair h TI (.ref i1) (.ref i2)
  TO : ∃ a b, IsPair h TO a b
  i1 : h.IsListIter i1 l1 i
  i2 : h.IsListIter i2 l2 i
  l1 : h.PlainList l1 xs
  l2 : h.PlainList l2 ys
theorem IsListIter.at' {h h' : Heap} {I l : Addr} {i : Nat} (x : h.IsListIter I l i) (k : ∀ o, o.cls = .type "list_iterator" → h.get? I = some o → h'.get? I = some o) : h'.IsListIter I l i := by
  refine byEAA x fun o a b c => ?_
  exact ⟨o, k o b a, b, c⟩
theorem PlainList.at' {h h' : Heap} {l : Addr} {xs : Array Value} (x : h.PlainList l xs) (k : ∀ o, o.cls = .type "list" → h.get? l = some o → h'.get? l = some o) : h'.PlainList l xs := by
  refine byE x fun n e => ?_
  exact ⟨n, k _ rfl e⟩
theorem ZSt.kp {z TI TO i1 i2 l1 l2 : Addr} {f : Value} {xs ys : Array Value} {i : Nat} (x : ZSt h z TI TO i1 i2 l1 l2 f xs ys i) (k : KpOff W h h') (n : ∀ b, W b -> b ≠ z /\ b ≠ TI /\ b ≠ TO /\ b ≠ i1 /\ b ≠ i2 /\ b ≠ l1 /\ b ≠ l2) : ZSt h' z TI TO i1 i2 l1 l2 f xs ys i := by
  have e : ∀ b o, (b = z ∨ b = TI ∨ b = TO ∨ b = i1 ∨ b = i2 ∨ b = l1 ∨ b = l2) → o.cls ≠ .type "frame" → o.cls ≠ .none → h.get? b = some o → h'.get? b = some o := fun b o hb c1 c2 eo =>
    (k b o (fun w => by
      have q := n b w
      rcases hb with rfl | rfl | rfl | rfl | rfl | rfl | rfl
      · exact q.1 rfl
      · exact q.2.1 rfl
      · exact q.2.2.1 rfl
      · exact q.2.2.2.1 rfl
      · exact q.2.2.2.2.1 rfl
      · exact q.2.2.2.2.2.1 rfl
      · exact q.2.2.2.2.2.2 rfl) eo).exact c1 c2
  refine ⟨e _ _ (by simp) (by simp) (by simp) x.z, e _ _ (by simp) (by simp) (by simp) x.TI, ?_, IsListIter.at' x.i1 fun o c => e _ o (by simp) (by rw [c]; simp) (by rw [c]; simp), IsListIter.at' x.i2 fun o c => e _ o (by simp) (by rw [c]; simp) (by rw [c]; simp), PlainList.at' x.l1 fun o c => e _ o (by simp) (by rw [c]; simp) (by rw [c]; simp), PlainList.at' x.l2 fun o c => e _ o (by simp) (by rw [c]; simp) (by rw [c]; simp)⟩
  refine byEE x.TO fun a b q => ?_
  exact ⟨a, b, e _ _ (by simp) (by simp) (by simp) q⟩
theorem zipApartN {n l1 l2 : Addr} (h1 : l1 < n) (h2 : l2 < n) : ZipApart (n + 4) (n + 2) (n + 3) n (n + 1) l1 l2 where
  TIz := Nat.ne_of_lt (Nat.add_lt_add_left (by decide) n)
  TOz := Nat.ne_of_lt (Nat.add_lt_add_left (by decide) n)
  i1z := Nat.ne_of_lt (Nat.lt_add_of_pos_right (by decide))
  i2z := Nat.ne_of_lt (Nat.add_lt_add_left (by decide) n)
  TITO := Nat.ne_of_lt (Nat.add_lt_add_left (by decide) n)
  TIi1 := Nat.ne_of_gt (Nat.lt_add_of_pos_right (by decide))
  TIi2 := Nat.ne_of_gt (Nat.add_lt_add_left (by decide) n)
  TOi1 := Nat.ne_of_gt (Nat.lt_add_of_pos_right (by decide))
  TOi2 := Nat.ne_of_gt (Nat.add_lt_add_left (by decide) n)
  i12 := Nat.ne_of_lt (Nat.lt_add_of_pos_right (by decide))
  l1z := Nat.ne_of_lt (Nat.lt_of_lt_of_le h1 (Nat.le_add_right n 4))
  l1TO := Nat.ne_of_lt (Nat.lt_of_lt_of_le h1 (Nat.le_add_right n 3))
  l1i1 := Nat.ne_of_lt h1
  l1i2 := Nat.ne_of_lt (Nat.lt_of_lt_of_le h1 (Nat.le_add_right n 1))
  l2z := Nat.ne_of_lt (Nat.lt_of_lt_of_le h2 (Nat.le_add_right n 4))
  l2TO := Nat.ne_of_lt (Nat.lt_of_lt_of_le h2 (Nat.le_add_right n 3))
  l2i1 := Nat.ne_of_lt h2
  l2i2 := Nat.ne_of_lt (Nat.lt_of_lt_of_le h2 (Nat.le_add_right n 1))
theorem lays_two {la lb : List D} {vs : List Value} (l : Lays B V h [.list la, .list lb] vs) {c : Prop}
    (k : ∀ l1 l2, ¬ V l1 -> ¬ V l2 -> ∀ xs ys : Array Value, h.PlainList l1 xs -> Lays B V h la xs.toList -> h.PlainList l2 ys -> Lays B V h lb ys.toList -> vs = [.ref l1, .ref l2] -> c) : c := by
  simp only [Lays, Lay] at l
  obtain ⟨_, _, rfl, ⟨l1, rfl, n1, xs, p1, ls1⟩, _, _, rfl, ⟨l2, rfl, n2, ys, p2, ls2⟩, rfl⟩ := l
  exact k l1 l2 n1 n2 xs ys p1 ls1 p2 ls2 rfl
theorem loopS_nil {t : Expr} {body : List Stmt} (l : LoopS B k K t body Γ [] Γ') : Γ = Γ' := by cases l; rfl
theorem loopS_cons {t : Expr} {body : List Stmt} {d : D} {ds : List D} (l : LoopS B k K t body Γ (d :: ds) Γ') {c : Prop} (f : ∀ X₁ X₂, Asg B k K Γ t d X₁ -> Ex B k K X₁ body .next X₂ -> LoopS B k K t body X₂ ds Γ' -> c) : c := by
  cases l with
  | @step _ X₁ X₂ _ _ _ a b l => exact f X₁ X₂ a b l
theorem call_zip_N {prog w} {l1 l2 : Addr} {xs ys : Array Value} {Q : Value -> Shared -> Prop} {E : Value -> Shared -> Prop} (hl1 : s.heap.IsList l1 xs) (hl2 : s.heap.IsList l2 ys)
    (h : ∀ N h', s.heap.objs.size = N -> IsZip h' (N + 4) (N + 2) (N + 3) .none -> IsPair h' (N + 2) (.ref N) (.ref (N + 1)) -> IsPair h' (N + 3) .none .none -> h'.IsListIter N l1 0 -> h'.IsListIter (N + 1) l2 0 ->
      (∀ c o, s.heap.get? c = some o → h'.get? c = some o) → Q (.ref (N + 4)) { s with heap := h' }) : wpAny (model prog w) A (call (.type "zip") [.ref l1, .ref l2]) Q E s :=
  call_zip_2 hl1 hl2 fun h' a b c d e _ g => h _ h' rfl a b c d e g
theorem item_zip_N {prog w} {z TI TO i1 i2 l1 l2 : Addr} {k1 : Nat} {xs ys : Array Value} {x y : Value} {Q : Option Value -> Shared -> Prop} {E : Value -> Shared -> Prop} (D : ZipApart z TI TO i1 i2 l1 l2)
    (zs : ZSt s.heap z TI TO i1 i2 l1 l2 .none xs ys k1) (hx : xs[k1]? = some x) (hy : ys[k1]? = some y)
    (hQ : ∀ T h', s.heap.get? T = none -> IsZip h' z TI TO (rawInt T) -> IsPair h' TO x y -> IsPair h' T x y -> ZSt h' z TI TO i1 i2 l1 l2 (rawInt T) xs ys (k1 + 1) ->
      (∀ c o, c ≠ z -> c ≠ TO -> c ≠ i1 -> c ≠ i2 -> s.heap.get? c = some o -> h'.get? c = some o) -> Q (some (.ref T)) { s with heap := h' }) :
    wpAny (model prog w) A (pyNext (.ref z)) Q E s := by
  refine byEE zs.TO fun _ _ hTO => ?_
  exact wpAny_pyNext_zip_item D zs.z zs.TI hTO zs.i1 zs.i2 zs.l1.isList zs.l2.isList hx hy fun h₂ z2 to2 i12 i22 t2 _ k => hQ _ h₂ (none_size (Nat.le_refl _)) z2 to2 t2
    ⟨z2, k _ _ D.TIz D.TITO D.TIi1 D.TIi2 zs.TI, ⟨_, _, to2⟩, i12, i22, PlainList.at' zs.l1 fun o _ => k _ o D.l1z D.l1TO D.l1i1 D.l1i2, PlainList.at' zs.l2 fun o _ => k _ o D.l2z D.l2TO D.l2i1 D.l2i2⟩ k
theorem own_zip_N {prog w} {elts : List Expr} {x1} {pos : Pos} {z TI TO i1 i2 l1 l2 T : Addr} {xs ys : Array Value} {j : Nat} {Q : Unit -> Shared -> Prop} {E : Value -> Shared -> Prop} (D : ZipApart z TI TO i1 i2 l1 l2) (zs : ZSt s.heap z TI TO i1 i2 l1 l2 (rawInt T) xs ys j)
    (hQ : ∀ h', ZSt h' z TI TO i1 i2 l1 l2 .none xs ys j -> (∀ b o, b ≠ z -> s.heap.get? b = some o -> h'.get? b = some o) -> Q () { s with heap := h' }) :
    wpAny (model prog w) A (letOwnedTupleGo (.Tuple elts x1 pos) (.ref z) (.ref T)) Q E s := by
  refine byEE zs.TO fun _ _ hTO => ?_
  refine wpAny_letOwnedTupleGo_zip zs.z fun h₃ z3 hs => ?_
  have k : ∀ b o, b ≠ z -> s.heap.get? b = some o -> h₃.get? b = some o := fun b o nb e => (hs.2 b nb).trans e
  exact hQ h₃ ⟨z3, k _ _ D.TIz zs.TI, ⟨_, _, k _ _ D.TOz hTO⟩, IsListIter.at' zs.i1 fun o _ => k _ o D.i1z, IsListIter.at' zs.i2 fun o _ => k _ o D.i2z, PlainList.at' zs.l1 fun o _ => k _ o D.l1z, PlainList.at' zs.l2 fun o _ => k _ o D.l2z⟩ k
noncomputable def ZF (N b : Addr) : Prop := b = N + 4 \/ b = N + 3 \/ b = N \/ b = N + 1
theorem ZF.ge {N b : Addr} : ZF N b -> N <= b
  | .inl e => e ▸ Nat.le_add_right _ _
  | .inr (.inl e) => e ▸ Nat.le_add_right _ _
  | .inr (.inr (.inl e)) => e ▸ Nat.le_refl _
  | .inr (.inr (.inr e)) => e ▸ Nat.le_add_right _ _
theorem ZF.off {N l1 l2 b : Addr} (q : b ≠ N + 4 /\ b ≠ N + 2 /\ b ≠ N + 3 /\ b ≠ N /\ b ≠ N + 1 /\ b ≠ l1 /\ b ≠ l2) : ¬ ZF N b
  | .inl e => q.1 e
  | .inr (.inl e) => q.2.2.1 e
  | .inr (.inr (.inl e)) => q.2.2.2.1 e
  | .inr (.inr (.inr e)) => q.2.2.2.2.1 e
theorem ZF.kept {N : Addr} {h h' : Heap} (k : ∀ c o, c ≠ N + 4 -> c ≠ N + 3 -> c ≠ N -> c ≠ N + 1 -> h.get? c = some o -> h'.get? c = some o) (b : Addr) (o : Obj) (e : h.get? b = some o) (nf : ¬ ZF N b) : h'.get? b = some o :=
  k b o (fun q => nf (.inl q)) (fun q => nf (.inr (.inl q))) (fun q => nf (.inr (.inr (.inl q)))) (fun q => nf (.inr (.inr (.inr q)))) e
theorem ZSt.what {N l1 l2 : Addr} {f : Value} {xs ys : Array Value} {j : Nat} (zz : ZSt h (N + 4) (N + 2) (N + 3) N (N + 1) l1 l2 f xs ys j) (b : Addr) (o : Obj) (f : ZF N b) (e : h.get? b = some o) : (IsPriv o ∨ b = N + 3) ∧ o.cls ≠ .type "frame" ∧ o.cls ≠ .type "code" := by
  rcases f with rfl | rfl | rfl | rfl
  · rw [zz.z] at e; cases e
    exact ⟨.inl (priv_of (c := "zip") rfl (by decide)).1, by simp⟩
  · refine byEE zz.TO fun _ _ q => ?_
    rw [q] at e; cases e
    exact ⟨.inr rfl, by simp⟩
  · refine byEAA zz.i1 fun o' e' c _ => ?_
    rw [e'] at e; cases e
    exact ⟨.inl (priv_of c (by decide)).1, by rw [c]; simp⟩
  · refine byEAA zz.i2 fun o' e' c _ => ?_
    rw [e'] at e; cases e
    exact ⟨.inl (priv_of c (by decide)).1, by rw [c]; simp⟩
theorem ZSt.there {N l1 l2 : Addr} {f : Value} {xs ys : Array Value} {j : Nat} (zz : ZSt h (N + 4) (N + 2) (N + 3) N (N + 1) l1 l2 f xs ys j) (b : Addr) : ZF N b -> ∃ o, h.get? b = some o
  | .inl e => e ▸ ⟨_, zz.z⟩
  | .inr (.inl e) => e ▸ (byEE zz.TO fun _ _ q => ⟨_, q⟩)
  | .inr (.inr (.inl e)) => e ▸ (byEAA zz.i1 fun o e _ _ => ⟨o, e⟩)
  | .inr (.inr (.inr e)) => e ▸ (byEAA zz.i2 fun o e _ _ => ⟨o, e⟩)
theorem ZSt.apart {N l1 l2 : Addr} {f : Value} {xs ys : Array Value} {j : Nat} (zz : ZSt h (N + 4) (N + 2) (N + 3) N (N + 1) l1 l2 f xs ys j) (b : Addr) (z : h.get? b = none) : b ≠ N + 4 /\ b ≠ N + 2 /\ b ≠ N + 3 /\ b ≠ N /\ b ≠ N + 1 /\ b ≠ l1 /\ b ≠ l2 := by
  have ne : ∀ c o, h.get? c = some o -> b ≠ c := fun c o e q => by rw [<- q, z] at e; cases e
  exact ⟨ne _ _ zz.z, ne _ _ zz.TI, byEE zz.TO fun _ _ q => ne _ _ q, byEAA zz.i1 fun o e _ _ => ne _ _ e, byEAA zz.i2 fun o e _ _ => ne _ _ e, byE zz.l1 fun _ e => ne _ _ e, byE zz.l2 fun _ e => ne _ _ e⟩
theorem drop_none {xs : Array Value} {j : Nat} (e : xs.toList.drop j = []) : xs[j]? = none := by rw [<- Array.getElem?_toList]; exact List.getElem?_eq_none (List.drop_eq_nil_iff.mp e)
theorem drop_some {xs : Array Value} {j : Nat} {x : Value} {r : List Value} (e : xs.toList.drop j = x :: r) : xs[j]? = some x /\ xs.toList.drop (j + 1) = r := by
  have := congrArg (fun l => l[0]?) e
  exact ⟨by simpa [List.getElem?_drop] using this, by rw [<- List.drop_drop, e]; rfl⟩
theorem zipD_nil : ∀ {as bs : List D}, zipD as bs = [] -> (as = [] \/ bs = [])
  | [], _, _ => .inl rfl
  | _ :: _, [], _ => .inr rfl
theorem zip_over {xs ys : Array Value} {j : Nat} {as bs : List D} (e : zipD as bs = []) (ra : Lays B V h as (xs.toList.drop j)) (rb : Lays B V h bs (ys.toList.drop j)) : xs[j]? = none \/ ys[j]? = none := by
  rcases zipD_nil e with rfl | rfl
  · simp only [Lays] at ra; exact .inl (drop_none ra)
  · simp only [Lays] at rb; exact .inr (drop_none rb)
theorem zip_more {xs ys : Array Value} {j : Nat} {as bs : List D} {d : D} {ds : List D} (e : zipD as bs = d :: ds) (ra : Lays B V h as (xs.toList.drop j)) (rb : Lays B V h bs (ys.toList.drop j)) {c : Prop}
    (k : ∀ a as' b bs' x y, d = .tup [a, b] -> ds = zipD as' bs' -> xs[j]? = some x -> ys[j]? = some y -> Lay B V h a x -> Lay B V h b y -> Lays B V h as' (xs.toList.drop (j + 1)) -> Lays B V h bs' (ys.toList.drop (j + 1)) -> c) : c := by
  cases as with
  | nil => cases e
  | cons a as' =>
    cases bs with
    | nil => cases e
    | cons b bs' =>
      simp only [Lays] at ra rb
      refine byEEAA ra fun x rx ex lx la' => ?_
      refine byEEAA rb fun y ry ey ly lb' => ?_
      injection (show D.tup [a, b] :: zipD as' bs' = d :: ds from e) with e1 e2
      exact k a as' b bs' x y e1.symm e2.symm (drop_some ex).1 (drop_some ey).1 lx ly ((drop_some ex).2 ▸ la') ((drop_some ey).2 ▸ lb')
theorem lay_pair {T : Addr} {x y : Value} {a b : D} (nT : ¬ V T) (e : h.get? T = some { cls := .type "tuple", data := .seq #[x, y] }) (lx : Lay B V h a x) (ly : Lay B V h b y) : Lay B V h (.tup [a, b]) (.ref T) := by
  simp only [Lay, Lays]
  exact ⟨T, rfl, nT, _, ⟨_, e⟩, x, _, rfl, lx, y, _, rfl, ly, rfl⟩
structure ZInv (B : Base) (A : Around) (k : Nat) (K : Kinds) (env : Env) (t : Expr) (body : List Stmt) (Γ' : G) (V₀ W : Addr -> Prop) (h₀ : Heap) (N l1 l2 : Addr) (xs ys : Array Value) (n : Nat) (s' : Shared) (Δ : G) (as bs : List D) (W' : Addr -> Prop) (j : Nat) : Prop where
  n : n = (zipD as bs).length
  i : Inv B A s'
  dm : Dom h₀ s'.heap
  ex : Ext W h₀ W' s'.heap
  st : Stm B (fun b => V₀ b \/ b = N + 3) W' s'.heap env Δ
  lp : LoopS B k K t body Δ (zipD as bs) Γ'
  zs : ZSt s'.heap (N + 4) (N + 2) (N + 3) N (N + 1) l1 l2 .none xs ys j
  ra : Lays B (fun b => (V₀ b \/ b = N + 3) \/ W' b) s'.heap as (xs.toList.drop j)
  rb : Lays B (fun b => (V₀ b \/ b = N + 3) \/ W' b) s'.heap bs (ys.toList.drop j)
  nw : ∀ b, W' b -> b ≠ N + 4 /\ b ≠ N + 2 /\ b ≠ N + 3 /\ b ≠ N /\ b ≠ N + 1 /\ b ≠ l1 /\ b ≠ l2
theorem zip_kept {W₅ : Addr -> Prop} (e : Ext W h W₅ h') (b : Addr) (o : Obj) (nb : ¬ (V b \/ W b)) (eo : h.get? b = some o) (io : IsData o) : ¬ (V b \/ W₅ b) /\ h'.get? b = some o := by
  refine ⟨fun q => ?_, io.kept (e.kp b o (fun w => nb (.inr w)) eo)⟩
  rcases q with q | q
  · exact nb (.inl q)
  · rcases e.new b q with z | z
    · exact nb (.inr z)
    · rw [z] at eo; cases eo
theorem zip_stm {N l1 l2 : Addr} {xs ys : Array Value} {j : Nat} {f : Value} {Δ : G} (st' : Stm B (fun b => V₀ b \/ b = N + 3) W h env Δ) (zs : ZSt h (N + 4) (N + 2) (N + 3) N (N + 1) l1 l2 f xs ys j) (off : ∀ b o, h.get? b = some o -> ¬ ZF N b -> h'.get? b = some o) (nW : ∀ b, ZF N b -> ¬ W b)
    (V₁ : Addr -> Prop) (hV : ∀ b, V₁ b -> V₀ b \/ b = N + 3) (hd : ∀ b, V₁ b -> ZF N b -> ∃ o, h'.get? b = some o /\ ¬ IsPriv o) : Stm B V₁ W h' env Δ := by
  refine st'.turn (F := ZF N) (fun b q => .inl (hV b q)) (fun b o f e => ⟨nW b f, (zs.what b o f e).1.imp id .inr⟩) (fun b o e nf => .inl (off b o e nf)) fun b q => ?_
  by_cases f : ZF N b
  · exact hd b q f
  · refine byEA (st'.r.domP b (.inl (hV b q))) fun o e n => ?_
    exact ⟨o, off b o e f, n⟩
theorem Ex1E.forZip (O : B.Ok) {π : Env → Prop} {ea eb : Expr} {ts : List Expr} {nt : Nat} {pt p pz pc : Pos} {body : List Stmt} {la lb : List D} (bl : BltAt B "zip" (.type "zip")) (hK : K "zip" = some .globalImplicit) (x : EvLE π B (k + 1) K Γ [ea, eb] [.list la, .list lb]) (y : LoopS B (k + 1) K (.Tuple ts nt pt) body Γ (zipD la lb) Γ')
    (hs : noStars [ea, eb] = true := by rfl) (hf : ∀ env v, foldedSetIterable (.Call (.Name "zip" pz) [ea, eb] [] pc) env v = pure v := by intro _ _; rfl) : Ex1E π B (k + 1) K Γ (.For (.Tuple ts nt pt) (.Call (.Name "zip" pz) [ea, eb] [] pc) body [] p) .next Γ' := .mk fun A env V₀ W s Q E hπ rm eo i st h => by
  refine wpAny_For (Call_ (glob_blt O bl hK eo i (callWith_blt (f := .type "zip") rfl hs (x.run pc A env _ s _ E hπ rm eo i st.r fun vs s₁ i₁ k₁ l₁ => ?_))) ) (hf env)
  refine lays_two l₁ fun l1 l2 n1 n2 xs ys p1 ls1 p2 ls2 hvs => ?_
  subst hvs
  refine call_zip_N (prog := B.prog) (w := B.w) p1.isList p2.isList fun N h' hN hz hTI hTO hi1 hi2 hk => ?_
  have a1 : l1 < N := hN ▸ byE (id p1) fun _ e => Heap.lt_size e
  have a2 : l2 < N := hN ▸ byE (id p2) fun _ e => Heap.lt_size e
  have ap := zipApartN a1 a2
  have nn : ∀ b, N <= b -> s₁.heap.get? b = none := fun b q => none_size (hN ▸ q)
  have nn0 : ∀ b, N <= b -> s.heap.get? b = none := fun b q => fresh_of k₁ (nn b q)
  have lo : B.n₀ <= N := hN ▸ O.size _ i₁.good
  have small : ∀ b o, s.heap.get? b = some o -> b < N := fun b o e => Nat.lt_of_not_le fun q => by rw [nn0 b q] at e; cases e
  have smV : ∀ b, V₀ b \/ W b -> b < N := fun b v => byE (st.r.dom b v) fun o e => small b o e
  have i₂ : Inv B A { s₁ with heap := h' } := i₁.keep O (tk := s₁.toks) hk
  have kp₂ : Kp s.heap h' := k₁.trans (.of hk)
  have st₁ : Stm B (fun b => V₀ b \/ b = N + 3) W h' env Γ := by
    refine (st.kp k₁).turn (F := fun _ => False) (fun b q => q.imp id fun (e : b = N + 3) => .inl (nn b (e ▸ Nat.le_add_right _ _))) (fun _ _ f => f.elim) (fun b o e _ => .inl (hk b o e)) fun b q => ?_
    refine q.elim (fun q => ?_) fun q => q ▸ ⟨_, hTO, fun q => q.1 (.inr (.inl rfl))⟩
    exact byEA ((st.kp k₁).r.domP b (.inl q)) fun o e n => ⟨o, hk b o e, n⟩
  have z₁ : ZSt h' (N + 4) (N + 2) (N + 3) N (N + 1) l1 l2 .none xs ys 0 := ⟨hz, hTI, ⟨_, _, hTO⟩, hi1, hi2, PlainList.at' p1 fun o _ => hk _ o, PlainList.at' p2 fun o _ => hk _ o⟩
  have nw : ∀ b, W b -> b ≠ N + 4 /\ b ≠ N + 2 /\ b ≠ N + 3 /\ b ≠ N /\ b ≠ N + 1 /\ b ≠ l1 /\ b ≠ l2 := fun b w => by
    have hb : b < N := smV b (.inr w)
    have ne : ∀ j, b ≠ N + j := fun j e => absurd hb (Nat.not_lt.mpr (e ▸ Nat.le_add_right _ _))
    exact ⟨ne 4, ne 2, ne 3, ne 0, ne 1, fun e => n1 (.inr (e ▸ w)), fun e => n2 (.inr (e ▸ w))⟩
  have K₁ : ∀ b o, ¬ (V₀ b \/ W b) -> s₁.heap.get? b = some o -> IsData o -> ¬ ((V₀ b \/ b = N + 3) \/ W b) /\ h'.get? b = some o := fun b o nb e _ =>
    ⟨fun q => q.elim (fun q => q.elim (fun q => nb (.inl q)) fun q => by rw [nn b (q ▸ Nat.le_add_right _ _)] at e; cases e) fun q => nb (.inr q), hk b o e⟩
  refine wpAny_pyIter_zip (s := { s₁ with heap := h' }) hz ?_
  refine codeAny_forLoop_any (fun n s' => ∃ Δ as bs W' j, ZInv B A (k + 1) K env (.Tuple ts nt pt) body Γ' V₀ W s.heap N l1 l2 xs ys n s' Δ as bs W' j) ?_ (zipD la lb).length
    ⟨Γ, la, lb, W, 0, rfl, i₂, kp₂.dom, .of_kp kp₂, st₁, y, z₁, ls1.mono K₁, ls2.mono K₁, nw⟩
  have hh := rm.handled (Nat.succ_pos _)
  clear st₁ z₁ nw K₁ i₂ kp₂ hz hTI hTO hi1 hi2 hk ls1 ls2 p1 p2 n1 n2 x y l₁ i₁ k₁ nn hN a1 a2
  intro n s' q
  refine q.elim fun Δ q => q.elim fun as q => q.elim fun bs q => q.elim fun W' q => q.elim fun j q => ?_
  have nWF : ∀ b, ZF N b -> ¬ W' b := fun b f w => ZF.off (q.nw b w) f
  have loF : ∀ b, ZF N b -> B.n₀ <= b := fun b f => Nat.le_trans lo f.ge
  cases ezd : zipD as bs with
  | nil =>
    refine byEE q.zs.TO fun ta tb hTO' => ?_
    refine wpAny_pyNext_zip_end (prog := B.prog) (w := B.w) hh ap q.zs.z q.zs.TI hTO' q.zs.i1 q.zs.i2 q.zs.l1.isList q.zs.l2.isList (zip_over ezd q.ra q.rb) fun h₂ hk₂ => wpAny_execs_nil ?_
    have off₂ := ZF.kept hk₂
    have st₂ : Stm B V₀ W' h₂ env Δ := zip_stm q.st q.zs off₂ nWF V₀ (fun _ => .inl) fun b v f => absurd (smV b (.inl v)) (Nat.not_lt.mpr f.ge)
    exact h .next { s' with heap := h₂ } W' (inv_off O (tk := s'.toks) q.i off₂ loF fun b o f e => (q.zs.what b o f e).2)
      (fun b o e => byE (q.dm b o e) fun o' e' => ⟨o', off₂ b o' e' fun f => absurd (small b o e) (Nat.not_lt.mpr f.ge)⟩) (ext_off q.ex off₂ fun b f => nn0 b f.ge) (loopS_nil (show LoopS B (k + 1) K (.Tuple ts nt pt) body Δ [] Γ' from ezd ▸ q.lp) ▸ st₂) rfl
  | cons d ds =>
    refine zip_more ezd q.ra q.rb fun a as' b bs' x y' ed eds hx hy lx ly la' lb' => ?_
    have lp : LoopS B (k + 1) K (.Tuple ts nt pt) body Δ (d :: ds) Γ' := ezd ▸ q.lp
    subst ed eds
    refine item_zip_N (prog := B.prog) (w := B.w) ap q.zs hx hy fun T h₂ nT z2 to2 t2 zs₂ hk₂ => ?_
    have off₂ := ZF.kept hk₂
    refine own_zip_N (s := { s' with heap := h₂ }) ap zs₂ fun h₃ zs₃ k23 => ?_
    have off₃ : ∀ b o, s'.heap.get? b = some o -> ¬ ZF N b -> h₃.get? b = some o := fun b o e nf => k23 b o (fun q => nf (.inl q)) (off₂ b o e nf)
    have st₃ : Stm B (fun b => V₀ b \/ b = N + 3) W' h₃ env Δ := zip_stm q.st q.zs off₃ nWF _ (fun _ => id) fun b v f => v.elim (fun v => absurd (smV b (.inl v)) (Nat.not_lt.mpr f.ge)) fun v => v ▸ (byEE zs₃.TO fun _ _ e => ⟨_, e, fun q => q.1 (.inr (.inl rfl))⟩)
    have i₃ : Inv B A { s' with heap := h₃ } := inv_off O (tk := s'.toks) q.i off₃ loF fun b o f e => (q.zs.what b o f e).2
    have K₃ : ∀ b o, ¬ ((V₀ b \/ b = N + 3) \/ W' b) -> s'.heap.get? b = some o -> IsData o -> ¬ ((V₀ b \/ b = N + 3) \/ W' b) /\ h₃.get? b = some o := fun b o nb e io => ⟨nb, off₃ b o e fun f => (q.zs.what b o f e).1.elim (fun p => p.1 io) fun v => nb (.inl (.inr v))⟩
    have nTz : T ≠ N + 4 := fun e => by have := q.zs.z; rw [IsZip, <- e, nT] at this; cases this
    have l₃ : Lay B (fun b => (V₀ b \/ b = N + 3) \/ W' b) h₃ (.tup [a, b]) (.ref T) :=
      lay_pair (fun v => byE (q.st.r.dom T v) fun o e => by rw [nT] at e; cases e) (k23 _ _ nTz t2) (lx.mono K₃) (ly.mono K₃)
    have dm₃ : Dom s'.heap h₃ := dom_off off₃ fun b f => zs₃.there b f
    have ex₃ : Ext W s.heap W' h₃ := ext_off q.ex off₃ fun b f => nn0 b f.ge
    refine loopS_cons lp fun X₁ X₂ asg bd lp' => ?_
    refine asg.run A env _ W' { s' with heap := h₃ } (.ref T) _ _ rm eo i₃ st₃ l₃ fun s₄ i₄ dm₄ ex₄ st₄ => ?_
    refine bd.run A env _ W' s₄ _ _ rm eo i₄ st₄ fun fl s₅ W₅ i₅ dm₅ ex₅ st₅ ou => ?_
    cases (show fl = .next from ou)
    have e35 := ex₄.trans ex₅ dm₄
    have K₅ := zip_kept (V := fun b => V₀ b \/ b = N + 3) e35
    exact ⟨(zipD as' bs').length, by rw [q.n, ezd]; exact Nat.lt_succ_self _, X₂, as', bs', W₅, j + 1, rfl, i₅, ((q.dm.trans dm₃).trans dm₄).trans dm₅, ex₃.trans e35 (q.dm.trans dm₃), st₅, lp', zs₃.kp e35.kp q.nw, (la'.mono K₃).mono K₅, (lb'.mono K₃).mono K₅,
      fun b w => (e35.new b w).elim (fun z => q.nw b z) fun z => zs₃.apart b z⟩
theorem Ex1.forZip (O : B.Ok) {ea eb : Expr} {ts : List Expr} {nt : Nat} {pt p pz pc : Pos} {body : List Stmt} {la lb : List D} (bl : BltAt B "zip" (.type "zip")) (hK : K "zip" = some .globalImplicit) (x : EvL B (k + 1) K Γ [ea, eb] [.list la, .list lb]) (y : LoopS B (k + 1) K (.Tuple ts nt pt) body Γ (zipD la lb) Γ')
    (hs : noStars [ea, eb] = true := by rfl) (hf : ∀ env v, foldedSetIterable (.Call (.Name "zip" pz) [ea, eb] [] pc) env v = pure v := by intro _ _; rfl) : Ex1 B (k + 1) K Γ (.For (.Tuple ts nt pt) (.Call (.Name "zip" pz) [ea, eb] [] pc) body [] p) .next Γ' := .mk fun A env V₀ W s Q E rm eo i st h =>
  (Ex1E.forZip O (π := fun _ => True) bl hK (.mk fun p A env V s Q E _ => x.run p A env V s Q E) y hs hf).run A env V₀ W s Q E trivial rm eo i st h
end
open PySem.SeqAt (EqAt RcAt RcNeAt)
section
variable {B : Base} {k : Nat} {K : Kinds} {Γ Γ' : G} {V V' V₀ W : Addr -> Prop} {h h' : Heap} {env : Env} {A : Around} {s : Shared}
theorem CmpR.eq_tup {l l' : List D} {b : Bool} (hs : sims l l' = true) (hb : b = true ↔ l = l') (hd : deps l < 50) : CmpR B k .Eq (.tup l) (.tup l') b := fun A V s v₁ v₂ Q E r i dm x y h => by
  refine byEEA x.asTup fun a it hq hr => ?_
  subst hq
  refine byA hr fun p q => ?_
  refine byEEA y.asTup fun a' it' hq' hr' => ?_
  subst hq'
  refine byA hr' fun p' q' => ?_
  have hu := r.units
  refine byEA (tup_core q q' (eqsAt (A := A.in1) hs q q' (by show A.units + 1 + deps l < 9900; omega))) fun e hall he => ?_
  have hh := h s i (.refl _)
  rw [same_bool hb hall] at hh
  exact RcAt.tuples p.isTuple p'.isTuple (show A.units < 9900 by omega) he B.prog B.w E Q hh
theorem dget_valueAt {l : List (Str × D)} {kvs : List (Str × Value)} (ld : Layd B V h l kvs) (x : Str) : (valueAt kvs x).isSome = (dget l x).isSome := by
  cases e : dget l x with
  | none => rw [(ld.get x).2 e]; rfl
  | some d => refine byEA ((ld.get x).1 d e) fun v hv _ => ?_; rw [hv]; rfl
theorem CmpR.notin_dict (O : B.Ok) {l : List (Str × D)} {x : Str} : CmpR B k .NotIn (.str x) (.dict l) (!(dget l x).isSome) := fun A V s v₁ v₂ Q E r i dm a b h => by
  refine byE a.asStr fun t hq => ?_
  subst hq
  refine byEA b.asDict' fun d hq hr => ?_
  subst hq
  refine byA hr fun lo hr => ?_
  refine byEA hr fun kvs hD ld => ?_
  refine wpAny_notIn_of (PySem.strKind_is B.prog B.w x t) (sysNe O lo) hD.mapOf ?_
  rw [dget_valueAt ld x]
  exact h _ (i.tok _) (.refl _)
inductive WhileS (B : Base) (k : Nat) (K : Kinds) (test : Expr) (body : List Stmt) : Nat -> G -> G -> Prop
  | stop {X : G} : EvT B k K X test false -> WhileS B k K test body 0 X X
  | turn {n : Nat} {X X₁ X₂ : G} : EvT B k K X test true -> Ex B k K X body .next X₁ -> WhileS B k K test body n X₁ X₂ -> WhileS B k K test body (n + 1) X X₂
theorem Ex1.while_ {test : Expr} {body : List Stmt} {p : Pos} {n : Nat} (w : WhileS B k K test body n Γ Γ') : Ex1 B k K Γ (.While test body [] p) .next Γ' := .mk fun A env V₀ W s Q E rm eo i st h => by
  refine wpAny_While (codeAny_whileLoop (prog := B.prog) (w := B.w) (fun n s' => ∃ W' X, Inv B A s' /\ Dom s.heap s'.heap /\ Ext W s.heap W' s'.heap /\ Stm B V₀ W' s'.heap env X /\ WhileS B k K test body n X Γ') ?_ n ⟨W, Γ, i, .refl _, .refl _ _, st, w⟩)
  rintro n s₁ ⟨W₁, X, i₁, d₁, e₁, st₁, w₁⟩
  cases w₁ with
  | stop t =>
    refine t.run A env _ s₁ _ _ rm eo i₁ st₁.r fun s₂ i₂ k₂ => ?_
    rw [if_neg Bool.false_ne_true]
    exact wpAny_execs_nil (h .next s₂ W₁ i₂ (d₁.trans k₂.dom) (e₁.trans (Ext.of_kp (W := W₁) k₂) d₁) (st₁.kp k₂) rfl)
  | turn t y w₂ =>
    refine t.run A env _ s₁ _ _ rm eo i₁ st₁.r fun s₂ i₂ k₂ => ?_
    rw [if_pos rfl]
    have d₂ := d₁.trans k₂.dom
    have e₂ := e₁.trans (Ext.of_kp (W := W₁) k₂) d₁
    refine y.run A env V₀ W₁ s₂ _ _ rm eo i₂ (st₁.kp k₂) fun fl s₃ W₃ i₃ d₃ e₃ st₃ ou => ?_
    obtain rfl : fl = .next := ou
    exact ⟨_, Nat.lt_succ_self _, W₃, _, i₃, d₂.trans d₃, e₂.trans e₃ d₂, st₃, w₂⟩
noncomputable def runD : Int -> Nat -> List D
  | _, 0 => []
  | a, n + 1 => .int a :: runD (a + -1) n
theorem Iter.rangeD (O : B.Ok) {A : Around} (hh : A.handled = none) {I : Addr} (lo : B.n₀ <= I) :
    Iter B A I (fun b => b = I) (fun _ => False) false (fun V ds h => ∃ x n, ds = runD x n /\ IsRangeIter h I x n (-1)) (fun V ds v h => ∃ x n, ds = runD x n /\ IsRangeIter h I x n (-1)) where
  frame := fun V V' ds h h' hx hv hk => byEEA hx fun x n e hi => ⟨x, n, e, hk _ _ hi (.inl rfl)⟩
  item := fun V d ds s Q E inv _ hx hQ => by
    refine byEEA hx fun x n e hi => ?_
    cases n with
    | zero => cases e
    | succ n =>
      refine byA (List.cons.inj e) fun e1 e2 => ?_
      subst e1 e2
      refine wpAny_pyNext_range_item (prog := B.prog) (w := B.w) hi (by omega) fun h' hit hs => ?_
      refine hQ _ { s with heap := h', toks := s.toks + 1 } (inv.sameBut O hs lo fun o e => by rw [hi] at e; cases e; simp) ⟨x + -1, n, rfl, ?_⟩ (fun b o e nb => (hs.2 b nb).trans e) ⟨_, rfl⟩
      have e3 : (((n + 1 : Nat) : Int) - 1) = n := by omega
      rw [e3] at hit; exact hit
  done := fun V s Q E inv hx hQ => by
    refine byEEA hx fun x n e hi => ?_
    cases n with
    | succ n => cases e
    | zero =>
      refine wpAny_pyNext_range_end (prog := B.prog) (w := B.w) hh hi (by simp) fun h' hs => hQ { s with heap := h' } (inv_extBut O inv hs lo hi (by simp)) fun b o e nb => hs b o nb e
  self := fun V ds s Q E hx hQ => byEEA hx fun x n e hi => wpAny_pyIter_rangeiter (prog := B.prog) (w := B.w) hi hQ
  own := fun V ds ts n p v s Q E inv hx hQ => byEEA hx fun x m e hi => own_plain hi rfl (by decide) (hQ s inv ⟨x, m, e, hi⟩ fun _ _ e _ => e)
  plain := fun _ _ _ _ _ x => x
  there := fun V ds h b hx q => byEEA hx fun x n e hi => ⟨_, q ▸ hi, priv_of (c := "range_iterator") rfl (by decide)⟩
  thereO := fun V ds v h b hx q => byEEA hx fun x n e hi => ⟨_, q ▸ hi, priv_of (c := "range_iterator") rfl (by decide)⟩
  data := fun V ds h b _ q => q.elim
theorem EvI.rangeDown (O : B.Ok) {p p' : Pos} {ea eb ec : Expr} {a : Int} {n : Nat} (bl : BltAt B "range" (.type "range")) (hK : K "range" = some .globalImplicit) (y : EvLB B (k + 1) K Γ [ea, eb, ec] [.int a, .int (-1), .int (-1)]) (hn : a + 1 = (n : Int)) (hsm : Builtin.Range.small a (-1) (-1) = true)
    (hs : noStars [ea, eb, ec] = true := by rfl) : EvI B (k + 1) K Γ (.Call (.Name "range" p) [ea, eb, ec] [] p') false (runD a n) := .mk fun A env V s Q E rm eo i g h =>
  Call_ (glob_blt O bl hK eo i (callWith_blt (f := .type "range") rfl hs (y.run p' A env V s _ E rm eo i g fun vs s₁ i₁ k₁ l₁ => by
    refine byEE l₁.three fun v w hr => ?_
    refine byE hr fun q hr2 => ?_
    refine byA hr2 fun hq hr3 => ?_
    clear hr hr2
    subst hq
    refine byAA hr3 fun x z u => ?_
    refine byE x.asInt fun t hq => ?_
    subst hq
    refine byE z.asInt fun t' hq => ?_
    subst hq
    refine byE u.asInt fun t'' hq => ?_
    subst hq
    have kp : ∀ b' o, s₁.heap.get? b' = some o → (s₁.heap.push { cls := .type "range", data := .fields #[.int a t, .int (-1) t', .int (-1) t''] }).get? b' = some o := fun b o e => Heap.get?_push_of_some _ e
    refine call_range_3 (prog := B.prog) (w := B.w) (by decide) ?_ (.inl (PyProof.noPylong_small (by decide)))
    let s₂ : Shared := { s₁ with heap := s₁.heap.push { cls := .type "range", data := .fields #[.int a t, .int (-1) t', .int (-1) t''] }, toks := s₁.toks }
    have kp₂ : ∀ b' o, s₂.heap.get? b' = some o → (s₂.heap.push { cls := .type "range_iterator", data := .fields #[rawInt a, rawInt (Builtin.Range.rangeSize a (-1) (-1)), rawInt (-1)] }).get? b' = some o := fun b o e => Heap.get?_push_of_some _ e
    have i₂ : Inv B A s₂ := i₁.keep O kp
    refine wpAny_pyIter_range (prog := B.prog) (w := B.w) (s := s₂) (IsRange.new ..) hsm ?_
    refine h _ _ _ _ _ _ (i₂.keep O (tk := s₂.toks) kp₂) ((k₁.trans (.of kp)).trans (.of kp₂)) (Iter.rangeD O (rm.handled (Nat.succ_pos _)) (O.size _ i₂.good)) ⟨a, n, rfl, ?_⟩ ?_ (fun _ q => q)
    · have e : Builtin.Range.rangeSize a (-1) (-1) = n := by
        unfold Builtin.Range.rangeSize
        have e2 : (a - -1 - 1) / - (-1) = a := by rw [Int.neg_neg, Int.ediv_one]; omega
        rw [if_neg (by omega), e2]
        split <;> omega
      rw [<- e]
      exact Heap.get?_push_size _ rfl
    · rintro b rfl
      exact fresh_of (k₁.trans (.of kp)) (none_size (Nat.le_refl _)))))
end
open PySem.SeqAt (EqAt RcAt RcNeAt)
section
variable {prog : Program} {w : World} {A : Around} {E : Value -> Shared -> Prop} {s : Shared} {K : Type} [DecidableEq K] {knd : PySem.KeyKind prog w K}
theorem sub_step {n i : Nat} (h : i < n) : n - i = (n - (i + 1)) + 1 := by omega
theorem pairs_same {nm : String} {a b : Addr} {ka kb : List (K × Value)} {Q : Bool -> Shared -> Prop} (ha : (a == sysModules) = false) (hb : (b == sysModules) = false) (da : s.heap.DictOf knd a ka) (db : s.heap.DictOf knd b kb) (hl : ka.length = kb.length)
    (hits : ∀ (i : Nat) k v, ka[i]? = some (k, v) -> ∃ y, valueAt kb k = some y /\ EqAt A s v y true) (h : Q true s) : wpAny (model prog w) A (Builtin.Dict.samePairs nm a b) Q E s := by
  refine byEE da fun oa es q => byEAAA q fun ep hoa _ hda q => byAA q fun hka hpa _ => ?_
  refine byEE db fun ob es' q => byEAAA q fun ep' hob _ hdb q => byAA q fun hkb hpb _ => ?_
  clear da db
  have za : ka.length = es.size := by rw [<- hpa.length]; exact Array.length_toList
  have zb : kb.length = es'.size := by rw [<- hpb.length]; exact Array.length_toList
  have hz : es.size = es'.size := by rw [<- za, <- zb, hl]
  have look : ∀ k, findBy knd.is es' k = valueAt kb k := fun k => by
    rw [<- hpb.find k]
    clear zb hpb hkb hdb hob hz
    obtain ⟨l⟩ := es'
    simp [findBy]
  unfold Builtin.Dict.samePairs Builtin.Dict.showsAll
  rw [if_neg (by rw [ha]; exact Bool.false_ne_true), if_neg (by rw [hb]; exact Bool.false_ne_true)]
  refine wpAny_bind (wpAny_pure (wpAny_bind (wpAny_pure ?_)))
  refine wpAny_bind (wpAny_dictEntries hoa hda ?_)
  dsimp only
  refine wpAny_bind (wpAny_dictEntries hob hdb ?_)
  rw [if_neg (by simp [hz])]
  refine wpAny_bind (wpAny_dictEpoch hoa hda ?_)
  refine wpAny_bind ?_
  rw [Std.Legacy.Range.forIn_eq_forIn_range']
  simp only [Std.Legacy.Range.size, Nat.sub_zero, Nat.add_sub_cancel, Nat.div_one]
  refine wpAny_forIn_list _ (fun rest q s' => s' = s /\ q = (none, ()) /\ ∃ i, rest = List.range' i (es.size - i) /\ i <= es.size) _ ?_ ?_ _ _ ⟨rfl, rfl, 0, by simp, Nat.zero_le _⟩
  · rintro x rest q s' ⟨rfl, rfl, i, hr, hi⟩
    have hlt : i < es.size := by
      refine Nat.lt_of_not_le fun q => ?_
      rw [Nat.sub_eq_zero_of_le q] at hr; simp at hr
    have e0 : es.size - i = (es.size - (i + 1)) + 1 := sub_step hlt
    rw [e0, List.range'_succ] at hr
    injection hr with e1 e2
    subst e1
    refine wpAny_bind (wpAny_dictEntries hoa hda ?_)
    rw [Array.getElem?_eq_getElem hlt]
    have hlt' : x < ka.length := za ▸ hlt
    refine byEE (⟨_, _, rfl⟩ : ∃ k v, ka[x] = (k, v)) fun k v hkv => ?_
    have hk0 : ka[x]? = some (k, v) := by rw [List.getElem?_eq_getElem hlt', hkv]
    have hent := hpa.get? (i := x) (e := es[x]) (k := k) (v := v) (by rw [Array.getElem?_toList]; exact Array.getElem?_eq_getElem hlt) hk0
    refine byEA (hka es[x] (Array.getElem_mem hlt)) fun k' hk' hh => ?_
    rw [knd.inj _ _ _ hk' hent.1] at hh
    refine byEA (hits x k v hk0) fun y hy he => ?_
    show wpAny _ _ (holding [es[x].key, es[x].val] _ >>= _) _ _ _
    rw [hh]
    refine wpAny_bind (wpAny_holding (wpAny_bind (wpAny_dictFind_of hent.1 hob hdb hkb ?_)))
    cases hj : es'.findIdx? fun e => knd.is k e.key with
    | none =>
      have hn : valueAt kb k = none := by rw [<- look k, findBy_of_findIdx?, hj]
      rw [hn] at hy; cases hy
    | some j =>
      refine byE (Array.findIdx?_eq_some_iff_getElem.mp hj) fun hjlt _ => ?_
      have hv' : valueAt kb k = some es'[j].val := by
        rw [<- look k, findBy_of_findIdx?, hj]
        simp [Array.getElem?_eq_getElem hjlt]
      refine wpAny_bind (wpAny_dictEntries hob hdb ?_)
      rw [Array.getElem?_eq_getElem hjlt]
      have ey : es'[j].val = y := Option.some.inj (hv'.symm.trans hy)
      rw [<- ey, <- hent.2] at he
      refine wpAny_holding (he prog w _ _ ?_)
      show wpAny _ _ (if (!true) = true then _ else _) _ _ _
      rw [if_neg (by decide)]
      refine wpAny_bind (wpAny_dictEpoch hoa hda ?_)
      rw [if_neg (by simp)]
      exact wpAny_pure ⟨rfl, rfl, x + 1, e2, hlt⟩
  · rintro q s' ⟨rfl, rfl, i, hr, hi⟩
    exact wpAny_pure h
theorem ne_same {a b : Addr} {ka kb : List (K × Value)} {Q : Value -> Shared -> Prop} (ha : (a == sysModules) = false) (hb : (b == sysModules) = false) (da : s.heap.DictOf knd a ka) (db : s.heap.DictOf knd b kb) (hu : A.units < cLine) (hl : ka.length = kb.length)
    (hits : ∀ (i : Nat) k v, ka[i]? = some (k, v) -> ∃ y, valueAt kb k = some y /\ EqAt A.in1 s v y true) (h : Q (.bool false) s) : wpAny (model prog w) A (compareOp .NotEq (.ref a) (.ref b)) Q E s := by
  refine wpAny_richCompare_same_room (op := .NotEq) da.typeIs db.typeIs PySem.F.slot_dict_ne (wpAny_call_entry PySem.F.slot_dict_ne da.typeIs PySem.F.entry_dict_ne ?_ (PySem.F.args_dict_ne_2 _ _)) hu
  show wpAny _ _ (Builtin.Dict.dictSlotArgs "__ne__" ⟨[.ref a, .ref b], []⟩ >>= _) _ _ s
  refine wpAny_bind ?_
  unfold Builtin.Dict.dictSlotArgs
  refine wpAny_bind (wpAny_notOrdered_dict da.typeIs ?_)
  show wpAny _ _ (pure (Value.ref a, Value.ref b)) _ _ s
  refine wpAny_pure (wpAny_bind (wpAny_isInstance (T := "dict") db.typeIs PySem.F.sub_dict_dict ?_))
  simp only [Bool.not_true, Bool.false_eq_true, if_false]
  refine wpAny_bind (wpAny_pure (wpAny_bind (wpAny_pure ?_)))
  exact wpAny_bind (pairs_same ha hb da db hl hits (wpAny_pure ⟨_, rfl, fun x => (nomatch x), h⟩))
end
section
variable {B : Base} {k : Nat} {K : Kinds} {Γ Γ' : G} {V V' V₀ W : Addr -> Prop} {h h' : Heap} {env : Env} {A : Around} {s : Shared}
theorem Layd.at : ∀ {l : List (Str × D)} {kvs : List (Str × Value)} {j : Nat} {x : Str} {v : Value}, Layd B V h l kvs -> kvs[j]? = some (x, v) -> ∃ d, l[j]? = some (x, d) /\ Lay B V h d v
  | [], kvs, j, x, v, q, e => by simp only [Layd] at q; subst q; simp at e
  | (y, d) :: l, kvs, j, x, v, q, e => by
    simp only [Layd] at q
    refine byEEAA q fun v' r hq q1 q2 => ?_
    subst hq
    cases j with
    | zero =>
      simp at e
      refine ⟨d, ?_, e.2 ▸ q1⟩
      rw [<- e.1]; rfl
    | succ j => exact q2.at (j := j) (by simpa using e)
theorem CmpR.ne_vals (O : B.Ok) {l l' : List (Str × Str)} (hl : l.length = l'.length) (hs : ∀ p, p ∈ l -> dget (vals l') p.1 = some (.str p.2)) : CmpR B k .NotEq (.dict (vals l)) (.dict (vals l')) false := fun A V s v₁ v₂ Q E r i dm x y h => by
  refine byEA x.asDict' fun a hq hr => ?_
  subst hq
  refine byA hr fun lo hr => byEA hr fun kvs hD ld => ?_
  refine byEA y.asDict' fun a' hq hr => ?_
  subst hq
  refine byA hr fun lo' hr => byEA hr fun kvs' hD' ld' => ?_
  have hu := r.units
  refine ne_same (sysNe O lo) (sysNe O lo') hD hD' (show A.units < 9900 by omega) (by rw [ld.length, ld'.length]; simpa [vals] using hl) (fun j x v hx => ?_) (h s i (.refl _))
  refine byEA (ld.at hx) fun d hd lv => ?_
  have m : (x, d) ∈ vals l := List.mem_of_getElem? hd
  refine byEA (List.mem_map.mp m) fun p mp ep => ?_
  injection ep with e1 e2
  subst e1 e2
  refine byEA ((ld'.get p.1).1 _ (hs p mp)) fun y hy ly => ?_
  refine ⟨y, hy, ?_⟩
  simp only [Lay] at lv ly
  refine byE lv fun t hq => ?_
  subst hq
  refine byE ly fun t' hq => ?_
  subst hq
  have := EqAt.str_str (A := A.in1) (s := s) p.2 t p.2 t'
  rw [beq_self_eq_true] at this
  exact this
end
noncomputable def DAcc (B : Base) (l : List (Str × Str)) (h : Heap) (a : Addr) : Prop := ∃ o kvs, h.get? a = some o ∧ o.cls = .type "dict" ∧ h.DictOf (PySem.strKind B.prog B.w) a kvs ∧ Layd B (fun _ => False) h (vals l) kvs
section
variable {B : Base} {k : Nat} {K : Kinds} {Γ Γ' : G} {V Wc : Addr -> Prop} {h h' : Heap} {env : Env} {x : Str}
theorem layd_vals : ∀ {l : List (Str × Str)} {kvs : List (Str × Value)}, Layd B V h (vals l) kvs -> Layd B V' h' (vals l) kvs
  | [], kvs, q => by
    have q : kvs = [] := by simpa only [vals, List.map_nil, Layd] using q
    subst q; exact (rfl : ([] : List (Str × Value)) = [])
  | (y, d) :: l, kvs, q => by
    have q : ∃ v r, kvs = (y, v) :: r /\ Lay B V h (.str d) v /\ Layd B V h (vals l) r := q
    refine byEEAA q fun v r hq q1 q2 => ?_
    subst hq
    exact ⟨v, r, rfl, q1, layd_vals q2⟩
theorem DAcc.at {l : List (Str × Str)} {a : Addr} (x : DAcc B l h a) (k : ∀ o, o.cls = .type "dict" → h.get? a = some o → h'.get? a = some o) : DAcc B l h' a := by
  refine byEE x fun o kvs hr => byAAA hr fun h1 h2 h3 h4 => ?_
  refine ⟨o, kvs, k o h2 h1, h2, h3.at fun o' e => ?_, layd_vals h4⟩
  rw [h1] at e; cases e
  exact k o h2 h1
theorem stored_new {kvs : List (Str × Value)} {y : Str} {v : Value} (hn : y ∉ kvs.map (·.1)) : stored kvs y v = kvs ++ [(y, v)] := by
  unfold stored
  rw [if_neg]
  rw [List.any_eq_true]
  rintro ⟨p, mp, e⟩
  exact hn (List.mem_map.mpr ⟨p, mp, of_decide_eq_true e⟩)
inductive CompRD (B : Base) (k : Nat) (K : Kinds) (Γc : G) (x : Str) (ke ve : Expr) : List D -> List (Str × Str) -> Prop
  | nil : CompRD B k K Γc x ke ve [] []
  | cons {d ds y z out} : Ev B k K (put Γc x (.sh d)) ke (.str y) -> Ev B k K (put Γc x (.sh d)) ve (.str z) -> CompRD B k K Γc x ke ve ds out -> CompRD B k K Γc x ke ve (d :: ds) ((y, z) :: out)
theorem CompRD.map {α : Type} {Γc : G} {ke ve : Expr} (inj : α -> D) (f g : α -> Str) : ∀ (l : List α) (h1 : ∀ a, a ∈ l -> Ev B k K (put Γc x (.sh (inj a))) ke (.str (f a))) (h2 : ∀ a, a ∈ l -> Ev B k K (put Γc x (.sh (inj a))) ve (.str (g a))), CompRD B k K Γc x ke ve (l.map inj) (l.map fun a => (f a, g a))
  | [], _, _ => .nil
  | a :: l, h1, h2 => .cons (h1 a (.head _)) (h2 a (.head _)) (CompRD.map inj f g l (fun b m => h1 b (.tail _ m)) fun b m => h2 b (.tail _ m))
theorem CStm.appD (st : CStm B V Wc h env x Γ) {a : Addr} (hs : Heap.SameBut a h h') (wa : Wc a) (ho : ∃ o, h.get? a = some o ∧ o.cls = .type "dict") (hl : env.locals ≠ a) (ht : ∃ o', h'.get? a = some o' ∧ o'.cls = .type "dict") : CStm B V Wc h' env x Γ := by
  refine byEA ho fun oa hoa hca => ?_
  refine byA st.loc fun wl hr1 => byEE hr1 fun ol es hr2 => byEAA hr2 fun ep hol hcl hdl => ?_
  have keep : ∀ b o, ¬ Wc b -> h.get? b = some o -> h'.get? b = some o := fun b o nb e => (hs.2 b fun q => nb (q ▸ wa)).trans e
  have keepK : ∀ b o, ¬ V b -> h.get? b = some o -> IsData o -> ¬ V b /\ h'.get? b = some o := fun b o nb e _ => ⟨nb, keep b o (fun q => nb (st.sub b q).1) e⟩
  have cell : ∀ c v, CellAt h c v -> CellAt h' c v := fun c v hx => byEAA hx fun o h1 h2 h3 => ⟨o, (hs.2 c (by rintro rfl; rw [hoa] at h1; cases h1; rw [hca] at h2; exact absurd h2 (by simp))).trans h1, h2, h3⟩
  have fw : ∀ y w, Looks h env y w -> Looks h' env y w := fun y w l => by
    rcases l with ⟨e, m, am, bm⟩ | ⟨e, c, am, bm⟩
    · exact .inl ⟨e, m, am.kept fun o eo => .inl ((hs.2 _ hl).trans eo), bm⟩
    · exact .inr ⟨e, c, am, cell c _ bm⟩
  refine ⟨⟨fun b hb => ?_, fun y sl e => ?_⟩, st.sub, ⟨wl, ol, es, ep, (hs.2 _ hl).trans hol, hcl, hdl⟩, ?_, st.apart, fun y a? d v e l => ?_⟩
  · by_cases q : b = a
    · subst q; exact byEA ht fun o' h1 h2 => ⟨o', h1, fun q => q.1 (.inr (.inr (.inl h2)))⟩
    · exact byEA (st.r.domP b hb) fun o e n => ⟨o, (hs.2 b q).trans e, n⟩
  · refine byEA (st.r.vars y sl e) fun w l hh => ?_
    refine ⟨w, fw y w l, ?_⟩
    cases sl with
    | sh d' => exact Lay.mono keepK hh
    | own a? d' =>
      refine byEAAA hh fun r e' f g c => ?_
      refine byEA (st.nown y a? d' w e l) fun r' e'' nr => ?_
      subst e'; cases e''
      exact ⟨r, rfl, f, g, c.mono keepK fun o eo _ => keep r o nr eo⟩
  · rcases st.tgt with t | ⟨t, c, h1, h2, v, h3⟩
    · exact .inl t
    · exact .inr ⟨t, c, h1, h2, v, cell c v h3⟩
  · refine byEA (st.r.vars y _ e) fun w l' _ => ?_
    exact st.nown y a? d v e ((fw y w l').same l ▸ l')
theorem CompRD.use {Γc : G} {x : Str} {ke ve : Expr} {ds : List D} {out : List (Str × Str)} (h : CompRD B k K Γc x ke ve ds out) {c : Prop} (h0 : ds = [] -> out = [] -> c)
    (h1 : ∀ d ds₁ y z out₁, ds = d :: ds₁ -> out = (y, z) :: out₁ -> Ev B k K (put Γc x (.sh d)) ke (.str y) -> Ev B k K (put Γc x (.sh d)) ve (.str z) -> CompRD B k K Γc x ke ve ds₁ out₁ -> c) : c := by
  cases h with
  | nil => exact h0 rfl rfl
  | @cons d ds₁ y z out₁ a b e => exact h1 d ds₁ y z out₁ rfl rfl a b e
theorem vals_len (l : List (Str × Str)) : (vals l).length = l.length := by simp [vals]
theorem vals_new {l r out : List (Str × Str)} {y z : Str} {kvs : List (Str × Value)} (h : Layd B V h' (vals l) kvs) (e : l ++ (y, z) :: r = out) (nd : (out.map (·.1)).Nodup) : y ∉ kvs.map (·.1) := by
  rw [h.keys, show (vals l).map (·.1) = l.map (·.1) by simp [vals]]
  rw [<- e, List.map_append, List.map_cons] at nd
  exact fun m => (List.nodup_append.mp nd).2.2 _ m _ (.head _) rfl
theorem vals_snoc {l : List (Str × Str)} {y z : Str} {kvs : List (Str × Value)} {vv : Value} (q : Layd B (fun _ => False) h (vals l) kvs) (l₅ : ∃ t, vv = .str z t) : Layd B (fun _ => False) h' (vals (l ++ [(y, z)])) (kvs ++ [(y, vv)]) := by
  rw [show vals (l ++ [(y, z)]) = vals l ++ [(y, .str z)] by simp [vals]]
  exact Layd.snoc (V := fun _ => False) (h := h') (show Lay B (fun _ => False) h' (.str z) vv from l₅) (layd_vals q)
theorem comp_loopD (O : B.Ok) {A : Around} {I D₀ : Addr} {fp bp : Addr -> Prop} {St : (Addr -> Prop) -> List D -> Heap -> Prop} {StO : (Addr -> Prop) -> List D -> Value -> Heap -> Prop} {px pos : Pos} {iter ke ve : Expr} {sc : Scope} {s : Shared} {R : Result -> Shared -> Prop} {ds : List D} {out : List (Str × Str)}
    (rm : Room k A) (eo : EnvOk K env) (i : Inv B A s) (it : Iter B A I fp bp false St StO) (st : CStm B V Wc s.heap env x Γ) (hx0 : Γ.lookup x = none) (hst : St V ds s.heap)
    (hacc : DAcc B [] s.heap D₀) (wD : Wc D₀) (hDl : D₀ ≠ env.locals) (hDc : env.cells.lookup x ≠ some D₀) (hf : ∀ b, fp b -> ¬ Wc b) (hb : ∀ b, bp b -> ¬ Wc b)
    (c : CompRD B k K Γ x ke ve ds out) (hnd : (out.map (·.1)).Nodup) (hz : out.length <= sizeLine)
    (hR : ∀ s', Inv B A s' -> (∀ b o, s.heap.get? b = some o -> ¬ Wc b -> ¬ fp b -> Kept s'.heap b o) -> CStm B V Wc s'.heap env x Γ -> DAcc B out s'.heap D₀ -> R (.ok .next) s') :
    codeAny B.M A (.compLoop (.DictComp ke ve [⟨.Name x px, iter, [], 0⟩] sc pos) 0 (.ref I) (.ref D₀) env) R s := by
  have F : CFix B A I D₀ fp bp Wc env x K Γ St StO := ⟨O, eo, it, wD, hDl, hDc, hf, hb, hx0⟩
  have hA : ∀ dn, AccOk V D₀ (DAcc B dn · D₀) := fun dn h h' a k1 k2 => a.at fun o c e => k2 o (by rw [c]; simp) (by rw [c]; simp) e
  refine codeAny_compLoop_testsD (prog := B.prog) (w := B.w) (fun n s' => ∃ ds' dn out', n = ds'.length /\ Inv B A s' /\ CS B V Wc fp s.heap env x St (DAcc B dn · D₀) Γ ds' s'.heap /\ CompRD B k K Γ x ke ve ds' out' /\ dn ++ out' = out) ?_ ds.length
    ⟨ds, [], out, rfl, i, ⟨fun b o e _ _ => .inl e, st, hst, hacc⟩, c, rfl⟩
  intro n s' hq
  refine byE hq fun ds' hq => byEE hq fun dn out' hq => byAAAA hq fun hn i' q c' hout => ?_
  clear hq st hst hacc c
  refine c'.use (fun e1 e2 => ?_) (fun d ds₁ y z out₁ e1 e2 ek ev cr => ?_)
  · refine CS.over F (hA dn) i' (e1 ▸ q) fun s₂ i₂ kp₂ cs₂ a₂ => ?_
    exact hR s₂ i₂ kp₂ cs₂ (by rw [<- hout, e2, List.append_nil]; exact a₂)
  · refine CS.turn F (hA dn) i' (e1 ▸ q) fun v s₂ i₂ q₂ l₂ => ?_
    refine CS.store F (hA dn) i₂ q₂ l₂ fun s₃ i₃ q₃ => ?_
    rw [List.forIn_nil]
    refine wpAny_pure ?_
    rw [if_pos rfl]
    refine ek.run A env V s₃ _ _ rm eo i₃ q₃.st.r fun kv s₄ i₄ k₄ l₄ => ?_
    have q₄ := q₃.pure F (hA dn) k₄
    refine ev.run A env V s₄ _ _ rm eo i₄ q₄.st.r fun vv s₅ i₅ k₅ l₅ => ?_
    have q₅ := q₄.pure F (hA dn) k₅
    have hout' : dn ++ (y, z) :: out₁ = out := e2 ▸ hout
    simp only [Lay] at l₄ l₅
    refine byE l₄ fun tk hq => ?_
    rw [hq]
    refine byEE q₅.acc fun o kvs hr => byAAA hr fun h1 h2 h3 h4 => ?_
    refine wpAny_dictSet_pairs (PySem.strKind_is B.prog B.w y tk) h3 (fun h' hD' hs' => ?_) (by
      rw [h4.length, vals_len]
      refine Nat.le_trans ?_ hz
      rw [<- hout', List.length_append]; exact Nat.le_add_right _ _)
    rw [stored_new (vals_new h4 hout' hnd)] at hD'
    have hn' : ∃ o', h'.get? D₀ = some o' ∧ o'.cls = .type "dict" := hD'.elim fun o' q => q.elim fun _ q => q.elim fun _ q => ⟨o', q.1, q.2.1.1⟩
    refine ⟨ds₁.length, by rw [hn, e1]; exact Nat.lt_succ_self _, ds₁, dn ++ [(y, z)], out₁, rfl, i₅.sameBut O hs' (q₅.st.sub _ wD).2 fun o' e => by rw [h1] at e; cases e; rw [h2]; simp,
      q₅.grow F hs' (q₅.st.appD hs' wD ⟨_, h1, h2⟩ (Ne.symm hDl) hn') (byEA hn' fun o' a b => ⟨o', _, a, b, hD', vals_snoc h4 l₅⟩), cr, by rw [List.append_assoc]; exact hout'⟩
theorem EvF.dictComp (O : B.Ok) {px pos : Pos} {iter ke ve : Expr} {sc : Scope} {ds : List D} {out : List (Str × Str)} {cx : Bool} {Γc : G}
    (xi : EvIB B k K Γ iter ds) (sk : ScOk K Γ sc x cx) (hΓ : cap Γ sc.names = Γc) (c : CompRD B k (relK K sc) Γc x ke ve ds out) (hnd : (out.map (·.1)).Nodup) (hz : out.length <= sizeLine) (hs : ∀ env v, foldedSetIterable iter env v = pure v := by intro _ _; rfl) :
    EvF B k K Γ (.DictComp ke ve [⟨.Name x px, iter, [], 0⟩] sc pos) (.dict (vals out)) := .mk fun A env V s Q E rm eo i g h => by
  subst hΓ
  rw [arm_eval_DictComp]
  show wpAny B.M A (comprehension (.DictComp ke ve [⟨.Name x px, iter, [], 0⟩] sc pos) sc env (firstIterPos [⟨.Name x px, iter, [], 0⟩] pos) newDict false (eval iter env) none) Q E s
  have hcl : closureFor sc env = pure (closL (cellAdr env) sc.names []) := closureFor_eq fun p hp hf => by
    refine byAA (sk.frees p hp hf) fun _ h2 h3 => ?_
    refine byE (Option.isSome_iff_exists.mp h2) fun sl e => ?_
    refine byEA (g.vars _ _ e) fun v l _ => ?_
    rcases l with ⟨q, _⟩ | ⟨_, c, q, _⟩
    · rw [eo.kind] at q; rcases h3 with h3 | h3 <;> (rw [q] at h3; cases h3)
    · rw [q]; rfl
  refine wpAny_comprehension_free rfl (hs env) hcl sk.kind sk.locs (xi.run A env V s _ E rm eo i g fun I fp bp St StO s₂ i₂ k₂ it st₂ nf => ?_)
  let o₀ : Obj := { cls := .type "dict", data := .dict #[] }
  show wpAny B.M A (newObj (.type "dict") (.dict #[])) _ E s₂
  refine wpAny_newObj_type ?_
  have kD : ∀ b o, s₂.heap.get? b = some o -> (s₂.heap.push o₀).get? b = some o := fun b o e => Heap.get?_push_of_some _ e
  refine comp_frame O sk eo (g.kp k₂) (s := { s₂ with heap := s₂.heap.push o₀ }) (i₂.keep O (tk := s₂.toks) kD) kD (none_size (Nat.le_refl _)) ⟨_, Heap.get?_push_size _ rfl, .inr (.inr (.inl rfl))⟩ (O.size _ i₂.good)
    fun C cells s₄ Wc i₄ k₄ eo₄ wn wD hDC hcD wt wn' wC cs => ?_
  have kk : ∀ b o, s₂.heap.get? b = some o -> s₄.heap.get? b = some o := fun b o e => k₄ b o (kD b o e)
  have nz : ∀ b, s₂.heap.get? b = none -> s.heap.get? b = none := fun b e => by
    cases q : s.heap.get? b with
    | none => rfl
    | some o => refine byE ((k₂ b o q).ex) fun o' e' => ?_; rw [e] at e'; cases e'
  have st₄ : St (fun b => V b \/ Wc b) ds s₄.heap := it.frame _ _ _ _ _ st₂ (fun b q => q.imp id fun w => wn b w) fun b o e _ => kk b o e
  have fpw : ∀ b, fp b -> ¬ Wc b := fun b f w => by
    refine byEAA (it.there _ _ _ b st₂ f) fun o e _ => ?_
    rw [wn b w] at e; cases e
  have bpw : ∀ b, bp b -> ¬ Wc b := fun b f w => by
    refine byEA (it.data _ _ _ b st₂ f) fun o e _ => ?_
    rw [wn b w] at e; cases e
  have g0 : s₄.heap.get? s₂.heap.objs.size = some o₀ := k₄ _ _ (Heap.get?_push_size _ rfl)
  have hD : DAcc B [] s₄.heap s₂.heap.objs.size := ⟨o₀, [], g0, rfl, ⟨o₀, #[], 0, g0, ⟨rfl, rfl, rfl⟩, rfl, fun e m => by simp at m, .nil, List.nodup_nil⟩, rfl⟩
  have loop := comp_loopD (px := px) (pos := pos) (iter := iter) (sc := sc) (R := compPost B.M A E none Q (.ref s₂.heap.objs.size) C) O rm eo₄ i₄ it cs (cap_none sk) st₄ hD wD hDC hcD fpw bpw c hnd hz fun s' i' kp' cs' hl' => by
    have kp : Kp s.heap s'.heap := fun b o e => by
      have h1 : ∀ b o, s₂.heap.get? b = some o -> Kept s'.heap b o \/ fp b := fun b o e => by
        by_cases f : fp b
        · exact .inr f
        · exact .inl (kp' b o (kk b o e) (fun w => by rw [wn b w] at e; cases e) f)
      have nfp : ¬ fp b := fun f => by rw [nf b f] at e; cases e
      rcases k₂ b o e with q | ⟨cl, sl, q⟩ | ⟨cl, o', q⟩
      · exact (h1 b o q).resolve_right nfp
      · rcases (h1 b _ q).resolve_right nfp with z | ⟨_, sl', z⟩ | ⟨z, _⟩
        · exact .inr (.inl ⟨cl, sl, z⟩)
        · exact .inr (.inl ⟨cl, sl', z⟩)
        · exact absurd (cl.symm.trans z) (by simp)
      · exact .inr (.inr ⟨cl, ((h1 b _ q).resolve_right nfp).ex⟩)
    have nD := nz _ (none_size (Nat.le_refl s₂.heap.objs.size))
    have nC := nz _ (wn _ wC)
    have loC := (cs'.sub _ wC).2
    refine byA cs'.loc fun _ hr1 => byEE hr1 fun oc es hr2 => byEAAA hr2 fun ep hoC hcC hdC hkC => ?_
    have hoC : s'.heap.get? C = some oc := hoC
    refine ⟨nsFind es, ⟨oc, es, ep, hoC, hdC, hkC, fun _ => rfl⟩, fun h'' hsm => ?_⟩
    refine byEE (hl'.at (h' := h'') fun o _ e => (hsm.2 _ hDC).trans e) fun o kvs hr => byAAA hr fun h1 h2 h3 h4 => ?_
    refine h s₂.heap.objs.size { s' with heap := h'' } (i'.sameBut O (tk := s'.toks) hsm loC fun o' e => by rw [hoC] at e; cases e; rw [hcC]; simp) (kp.but hsm nC) nD (O.size _ i₂.good) ⟨O.size _ i₂.good, kvs, h3, layd_vals h4⟩
  exact codeAny_compStart_dict loop (it.self _ _ _ _ _ st₄ loop)
end
noncomputable def CodeSt (h : Heap) (c : Addr) (q : Str) : Prop := ∃ o vs t, h.get? c = some o ∧ o.cls = .type "code" ∧ o.data = .fields vs ∧ vs[1]? = some (.str q t)
theorem CodeSt.rec {h : Heap} {c : Addr} {q : Str} (x : CodeSt h c q) : h.CodeRec (.ref c) q := by
  obtain ⟨o, vs, t, a, b, d, e⟩ := x
  exact ⟨c, o, vs, t, rfl, a, d, e⟩
theorem CodeSt.at {h h' : Heap} {c : Addr} {q : Str} (x : CodeSt h c q) (k : ∀ o, o.cls = .type "code" → h.get? c = some o → h'.get? c = some o) : CodeSt h' c q := by
  obtain ⟨o, vs, t, a, b, d, e⟩ := x
  exact ⟨o, vs, t, k o b a, b, d, e⟩
noncomputable abbrev rowOf (pos : Pos) (c' : Addr) : Array Value := #[rawInt pos.line, rawInt pos.col, .ref c']
noncomputable def TabSt (h : Heap) (c P : Addr) (pos : Pos) (q : Str) : Prop :=
  (h.IsCode c P #[] /\ h.TableAt c P #[]) \/ ∃ c', h.IsCode c P (rowOf pos c') /\ h.TableAt c P (rowOf pos c') /\ CodeSt h c' q
theorem isCode_at {h h' : Heap} {c P : Addr} {ps : Array Value} (x : h.IsCode c P ps) (kc : ∀ o, h.get? c = some o -> h'.get? c = some o) (kp : ∀ o, h.get? P = some o -> h'.get? P = some o) : h'.IsCode c P ps := by
  obtain ⟨o, vs, file, tf, flags, tg, inF, text, tt, op, a, r1, r2, r3, r4, r5, r6, b, r⟩ := x
  exact ⟨o, vs, file, tf, flags, tg, inF, text, tt, op, kc _ a, r1, r2, r3, r4, r5, r6, kp _ b, r⟩
theorem tableAt_at {h h' : Heap} {c P : Addr} {ps : Array Value} (x : h.TableAt c P ps) (kc : ∀ o, h.get? c = some o -> h'.get? c = some o) (kp : ∀ o, h.get? P = some o -> h'.get? P = some o) : h'.TableAt c P ps := by
  obtain ⟨⟨o, vs, a, r⟩, t⟩ := x
  exact ⟨⟨o, vs, kc _ a, r⟩, kp _ t⟩
theorem TabSt.step {h h' : Heap} {c P n₀ : Addr} {pos : Pos} {q : Str} (x : TabSt h c P pos q) (hP : P < n₀) (k : ∀ b o, (b < n₀ ∨ o.cls = .type "code") → h.get? b = some o → h'.get? b = some o) : TabSt h' c P pos q := by
  have kP : ∀ o, h.get? P = some o -> h'.get? P = some o := fun o e => k P o (.inl hP) e
  rcases x with ⟨x, y⟩ | ⟨c', x, y, z⟩
  · have kc : ∀ o, h.get? c = some o -> h'.get? c = some o := fun o e => by
      obtain ⟨⟨o', vs, a, b, _⟩, _⟩ := y
      rw [a] at e; cases e
      exact k c _ (.inr b) a
    exact .inl ⟨isCode_at x kc kP, tableAt_at y kc kP⟩
  · have kc : ∀ o, h.get? c = some o -> h'.get? c = some o := fun o e => by
      obtain ⟨⟨o', vs, a, b, _⟩, _⟩ := y
      rw [a] at e; cases e
      exact k c _ (.inr b) a
    exact .inr ⟨c', isCode_at x kc kP, tableAt_at y kc kP, z.at fun o b e => k c' o (.inr b) e⟩
structure LamAt (B : Base) (c P : Addr) (pos : Pos) (q : Str) : Prop where
  st : ∀ h, B.good h -> TabSt h c P pos q
  grow : ∀ h h' c', B.good h -> Heap.ExtBut P h h' -> h'.IsCode c P (rowOf pos c') -> h'.TableAt c P (rowOf pos c') -> CodeSt h' c' q -> B.good h'
  mods : ∀ h, B.good h -> h.BuiltinsAt B.mg P
  ne : mainGlobals ≠ P
noncomputable abbrev lamFd (name qual : Str) (params : Arguments) (body : Expr) (scope : Scope) (cl : List (Str × Addr)) (pm cdv ct : Value) : FuncData :=
  { name, qualname := qual, params, body := .expr body, scope, globals := mainGlobals, closure := cl, defaults := .none, kwdefaults := .none, doc := .none, pyModule := pm, annotations := none, code := cdv, closureTuple := ct, builtins := builtinsNs }
noncomputable def LamFn (h : Heap) (f : Addr) (name qual : Str) (params : Arguments) (body : Expr) (scope : Scope) (cl : List (Str × Addr)) : Prop :=
  ∃ pm c' ct, h.get? f = some { cls := .type "function", data := .func (lamFd name qual params body scope cl pm (.ref c') ct) } ∧ CodeSt h c' qual
theorem LamFn.kp {h h' : Heap} {f : Addr} {name qual : Str} {params : Arguments} {body : Expr} {scope : Scope} {cl : List (Str × Addr)} (x : LamFn h f name qual params body scope cl) (k : Kp h h') : LamFn h' f name qual params body scope cl := by
  obtain ⟨pm, c', ct, e, z⟩ := x
  exact ⟨pm, c', ct, (k _ _ e).exact (by simp) (by simp), z.at fun o b e => (k _ _ e).exact (by rw [b]; simp) (by rw [b]; simp)⟩
section
variable {B : Base} {k : Nat} {K : Kinds} {Γ Γ' : G} {V V' V₀ W : Addr -> Prop} {h h' : Heap} {env : Env} {A : Around} {s : Shared}
theorem lam_make (O : B.Ok) {c P : Addr} {pos : Pos} {args : Arguments} {body : Expr} {sc : Scope} {clos : List (Str × Addr)} {Q : Value -> Shared -> Prop} {E : Value -> Shared -> Prop}
    (L : LamAt B c P pos (env.qual ++ "<lambda>")) (hc : env.code = .ref c) (hg : env.globals = mainGlobals) (i : Inv B A s) (hcl : closureFor sc env = pure clos) (hd : defaultsOf args env = ([], []))
    (hQ : ∀ f s', Inv B A s' → Kp s.heap s'.heap → LamFn s'.heap f "<lambda>" (env.qual ++ "<lambda>") args body sc clos → Q (.ref f) s') : wpAny B.M A (eval (.Lambda args body sc pos) env) Q E s := by
  have run : wpAny B.M A (makeFunction "<lambda>" (env.qual ++ "<lambda>") args (.expr body) sc env [] [] [] pos pos.line) Q E s := by
    obtain ⟨bm, ob, hbm, hne0, _, hneP, hbo, hcls, hdict, hdata⟩ := L.mods _ i.good
    have nsg := O.g _ i.good
    rw [makeFunction_eq]
    simp only [List.zip_nil_right, List.filterMap_nil, List.isEmpty_nil, if_true, pure_bind]
    unfold makeTail
    rw [hcl, hg]
    refine wpAny_bind (wpAny_pure ?_)
    have tail : ∀ (ct : Value) (h₁ : Heap), (∀ b o, s.heap.get? b = some o -> h₁.get? b = some o) -> wpAny B.M A (
        functionCode env pos pos.line "<lambda>" (env.qual ++ "<lambda>") args sc (.expr body) >>= fun cd => builtinsFor mainGlobals env.builtins >>= fun bl => nsGet mainGlobals "__name__" >>= fun nm =>
        newObj (.type "function") (.func { lamFd "<lambda>" (env.qual ++ "<lambda>") args body sc clos (nm.getD .none) cd ct with builtins := bl })) Q E { s with heap := h₁ } := by
      intro ct h₁ k₁
      have i₁ : Inv B A { s with heap := h₁ } := i.keep O (tk := s.toks) k₁
      have g₁ : B.good h₁ := i₁.good
      have fin : ∀ (c' : Addr) (h₂ : Heap) (tk : Nat), Inv B A { s with heap := h₂, toks := tk } → Kp s.heap h₂ → CodeSt h₂ c' (env.qual ++ "<lambda>") → h₂.Ns mainGlobals B.mg → h₂.get? bm = some ob → wpAny B.M A (
          builtinsFor mainGlobals env.builtins >>= fun bl => nsGet mainGlobals "__name__" >>= fun nm =>
          newObj (.type "function") (.func { lamFd "<lambda>" (env.qual ++ "<lambda>") args body sc clos (nm.getD .none) (.ref c') ct with builtins := bl })) Q E { s with heap := h₂, toks := tk } := by
        intro c' h₂ tk i₂ kp₂ z n₂ b₂
        refine wpAny_bind (wpAny_builtinsFor (s := { s with heap := h₂, toks := tk }) n₂ hbm hne0 b₂ hcls hdict hdata ?_)
        refine wpAny_bind (wpAny_nsGet n₂ ?_)
        refine wpAny_newObj_type ?_ (by size_fits)
        refine hQ _ _ (i₂.keep O (tk := tk) fun b o e => Heap.get?_push_of_some _ e) (kp₂.trans (.of fun b o e => Heap.get?_push_of_some _ e)) ⟨_, c', ct, Heap.get?_push_size _ rfl, z.at fun o _ e => Heap.get?_push_of_some _ e⟩
      rcases L.st _ g₁ with ⟨x, y⟩ | ⟨c', x, y, z⟩
      · refine wpAny_bind (wpAny_functionCodeX hc x y rfl fun c' h₂ tk hx hge hlt hic hrec htb hnew => ?_)
        obtain ⟨P', _, _, ⟨⟨oc, vc, e1, e2, _⟩, _⟩⟩ := hnew
        have z : CodeSt h₂ c' (env.qual ++ "<lambda>") := by
          obtain ⟨c₂, o₂, vs₂, t₂, e₃, g₂, r₂, r₃⟩ := hrec
          cases e₃
          rw [e1] at g₂; cases g₂
          exact ⟨_, _, _, e1, e2, r₂, r₃⟩
        have k₂ : Kp h₁ h₂ := fun b o e => by
          by_cases hb : b = P
          · subst hb
            rw [y.2] at e; cases e
            exact .inr (.inr ⟨rfl, _, htb.2⟩)
          · exact .inl (hx b o hb e)
        have good₂ : B.good h₂ := L.grow h₁ h₂ c' g₁ hx (by simpa using hic) (by simpa using htb) z
        exact fin c' h₂ tk ⟨good₂, i.gens, i.os, i.fr.off ((Kp.of k₁).trans k₂)⟩ ((Kp.of k₁).trans k₂) z ((nsg.keeps k₁).extBut hx L.ne) (hx _ _ hneP (k₁ _ _ hbo))
      · refine wpAny_bind (wpAny_functionCode_hit (c' := .ref c') hc x (by simp [codeAmong, rawInt]) ?_)
        exact fin c' h₁ s.toks i₁ (.of k₁) z (nsg.keeps k₁) (k₁ _ _ hbo)
    cases clos with
    | nil =>
      simp only [List.isEmpty_nil, if_true]
      exact wpAny_bind (wpAny_pure (tail .none s.heap fun _ _ e => e))
    | cons q r =>
      simp only [List.isEmpty_cons, Bool.false_eq_true, if_false]
      refine wpAny_bind (wpAny_newTextTuple ?_)
      exact tail _ _ fun b o e => Heap.get?_push_of_some _ e
  show wpAny B.M A (do let (d, kd) := defaultsOf args env; let dv ← evalAll d; let kdv ← holding dv (evalAllOpt kd); makeFunction "<lambda>" (env.qual ++ "<lambda>") args (.expr body) sc env dv kdv [] pos pos.line) Q E s
  rw [hd]
  refine wpAny_bind (wpAny_pure ?_)
  exact wpAny_bind (wpAny_holding (wpAny_pure run))
end
section
variable {B : Base} {k : Nat} {K : Kinds} {Γ Γ' : G} {V V' V₀ W : Addr -> Prop} {h h' : Heap} {env : Env} {A : Around} {s : Shared}
theorem codeExpr {prog : Program} {w : World} {R : Result -> Shared -> Prop} {e : Expr} (hQ : wpAny (model prog w) (A.deeper env) (eval e env) (fun v s' => R (.ok (.ret v)) s')
      (fun e' s' => wpAny (model prog w) (A.deeper env) (leaving env e') (fun _ s'' => R (.error e') s'') (fun e'' s'' => R (.error e'') s'') s') s) : codeAny (model prog w) A (.expr e env) R s := by
  refine codeAny_of_tree ?_
  show wpAny _ (A.deeper env) (do point; ret (<- (eval e env).onRaise (leaving env))) _ _ s
  exact wpAny_bind (wpAny_point (wpAny_bind (wpAny_onRaise (wpAny_mono hQ (fun v s' z => wpAny_pure z) fun _ _ z => z))))
theorem callLam {prog : Program} {w : World} {R : Result -> Shared -> Prop} {a : Addr} {args : Args} {o : Obj} {fd : FuncData} {body : Expr} (hroom : A.depth < recursionLimit) (ho : s.heap.get? a = some o)
    (hd : o.data = .func fd) (hco : fd.scope.isCoroutine = false) (hgen : fd.scope.isGenerator = false) (hb : fd.body = .expr body) (hcd : s.heap.CodeRec fd.code fd.qualname)
    (hQ : wpAny (model prog w) A.in1 (bindArgs fd args) (fun binds s₁ => wpAny (model prog w) A.in1 (newFunctionEnv fd.scope fd.globals fd.closure binds (fd.qualname ++ ".<locals>.") (some a) fd.code none fd.builtins)
        (fun env s₂ => s₂.heap.NoLimit /\ codeAny (model prog w) A (.expr body env) R s₂) (fun e s' => R (.error e) s') s₁) (fun e s' => R (.error e) s') s) :
    codeAny (model prog w) A (.call (.ref a) args) R s := by
  refine codeAny_of_tree ?_
  show wpAny _ A.in1 (callAny (.ref a) args) _ _ s
  simp only [callAny]
  refine wpAny_bind (wpAny_load ho ?_)
  obtain ⟨c, oc, vs, tq, hc, hoc, hdc, hq⟩ := hcd
  simp only [hd, callFunction, hco, hgen, hb, hc]
  rw [hc] at hQ
  refine wpAny_bind (m := field (.ref c) 1) (wpAny_field hoc hdc hq (wpAny_bind (wpAny_pure ?_)))
  refine wpAny_bind (wpAny_mono hQ (fun binds s₁ h₁ => wpAny_bind (wpAny_mono h₁ (fun env s₂ h₂ => ?_) fun _ _ z => z)) fun _ _ z => z)
  exact wpAny_bind (wpAny_enterFrame h₂.1 hroom (wpAny_pure (And.intro rfl h₂.2)))
noncomputable def lamEnv (scope : Scope) (L f : Addr) (clos : List (Str × Addr)) (q : Str) (cd : Value) : Env :=
  { scope, locals := L, globals := mainGlobals, cells := clos, qual := q, func := some f, code := cd, frame := some L, builtins := builtinsNs }
theorem lam_frame {M : Model} {scope : Scope} {clos : List (Str × Addr)} {x q : Str} {v : Value} {f : Addr} {cd : Value} {Q : Env -> Shared -> Prop} {E : Value -> Shared -> Prop}
    (hk : scope.kind = .function) (nc : ∀ p ∈ scope.names, p.2 ≠ .cell) (hx : scope.names.lookup x = some .local)
    (hQ : ∀ h', (∀ b o, s.heap.get? b = some o → h'.get? b = some o) → (∃ o es ep, h'.get? s.heap.objs.size = some o ∧ o.cls = .type "frame" ∧ o.data = .dict es ep) → LocAt h' s.heap.objs.size (fun y => if y = x then some v else none) →
      Q (lamEnv scope s.heap.objs.size f clos q cd) { s with heap := h', toks := s.toks + 1 }) :
    wpAny M A (newFunctionEnv scope mainGlobals clos [(x, v)] q (some f) cd none builtinsNs) Q E s := by
  simp only [newFunctionEnv, Option.isSome_none, Bool.false_eq_true, if_false]
  refine wpAny_bind (wpAny_alloc ?_)
  rw [forIn_yield_id clos (fun p hp c => by
    obtain ⟨n, kd⟩ := p
    have : (kd == NameKind.cell) = false := by simpa using nc _ hp
    simp only [this, Bool.false_eq_true, if_false])]
  refine wpAny_bind (wpAny_pure (wpAny_bind ?_))
  rw [List.forIn_cons]
  have hL : (s.heap.push { cls := .type "frame", data := .dict #[] }).get? s.heap.objs.size = some { cls := .type "frame", data := .dict #[] } := Heap.get?_push_size _ rfl
  have st : storeName (lamEnv scope s.heap.objs.size f clos q cd) x v = nsSet s.heap.objs.size x v := storeName_local (env := lamEnv scope s.heap.objs.size f clos q cd) hx (by show (scope.kind == .class || (scope.kind == .module && _)) = false; rw [hk]; rfl) v
  refine wpAny_bind ?_
  show wpAny M A (storeName (lamEnv scope s.heap.objs.size f clos q cd) x v >>= _) _ E _
  rw [st]
  refine wpAny_bind (nsSet_frame (s := { s with heap := s.heap.push { cls := .type "frame", data := .dict #[] } }) (m := fun _ => none) hL rfl (fun e he => by simp at he) (Heap.Ns.new s.heap (.type "frame")) fun h' hn hs hx => ?_)
  refine wpAny_pure ?_
  refine wpAny_pure (wpAny_pure ?_)
  obtain ⟨o', es', ep', ho', hc', hd', _⟩ := hx
  refine hQ h' (fun b o e => (hs.2 b (Nat.ne_of_lt (Heap.lt_size e))).trans (Heap.get?_push_of_some _ e)) ⟨o', es', ep', ho', hc', hd'⟩ ⟨hn, fun o e => ?_⟩
  rw [ho'] at e; cases e
  exact fun p => p.2.1 hc'
noncomputable def CapAt (B : Base) (V : Addr -> Prop) (h : Heap) (names : List (Str × NameKind)) (clos : List (Str × Addr)) (Γc : G) : Prop :=
  ∀ y sl, Γc.lookup y = some sl -> names.lookup y = some .free /\ ∃ c w, clos.lookup y = some c /\ CellAt h c (some w) /\ Holds B V h sl w
theorem CapAt.kp {names : List (Str × NameKind)} {clos : List (Str × Addr)} {Γc : G} (x : CapAt B V h names clos Γc) (k : Kp h h') : CapAt B V h' names clos Γc := fun y sl e => by
  obtain ⟨a, c, w, b, d, f⟩ := x y sl e
  exact ⟨a, c, w, b, d.kept fun o eo => k _ o eo, f.kp k⟩
theorem lam_call (O : B.Ok) {f : Addr} {name q x : Str} {params : Arguments} {body : Expr} {scope : Scope} {clos : List (Str × Addr)} {Γc : G} {v : Value} {d d' : D} {Q : Value -> Shared -> Prop} {E : Value -> Shared -> Prop}
    (F : LamFn s.heap f name q params body scope clos) (hb : ∀ pm cd ct v, bindArgs (lamFd name q params body scope clos pm cd ct) ⟨[v], []⟩ = pure [(x, v)])
    (hk : scope.kind = .function) (hco : scope.isCoroutine = false) (hgen : scope.isGenerator = false) (nc : ∀ p ∈ scope.names, p.2 ≠ .cell) (hx : scope.names.lookup x = some .local)
    (y : Ev B k (fun y => scope.names.lookup y) ((x, .sh d) :: Γc) body d') (rm : Room (k + 1) A) (i : Inv B A s) (dm : ∀ b, V b -> ∃ o, s.heap.get? b = some o /\ ¬ IsPriv o) (lv : Lay B V s.heap d v) (ca : CapAt B V s.heap scope.names clos Γc)
    (hQ : ∀ v' s', Inv B A s' -> Kp s.heap s'.heap -> Lay B V s'.heap d' v' -> Q v' s') : wpAny B.M A (call (.ref f) [v]) Q E s := by
  obtain ⟨pm, c', ct, hf, z⟩ := F
  refine wpAny_call (callLam (prog := B.prog) (w := B.w) (by have := rm.depth; show A.depth < 1000; omega) hf rfl hco hgen rfl z.rec ?_)
  rw [hb]
  refine wpAny_pure (lam_frame hk nc hx fun h' hk' hL hm => ⟨O.nolimit _ (i.keep O (tk := s.toks + 1) hk').good, ?_⟩)
  have i₁ : Inv B A { s with heap := h', toks := s.toks + 1 } := i.keep O hk'
  have kp₁ : Kp s.heap h' := .of hk'
  obtain ⟨oL, es, ep, h1, h2, h3⟩ := hL
  have i₂ : Inv B (A.deeper (lamEnv scope s.heap.objs.size f clos (q ++ ".<locals>.") (.ref c'))) { s with heap := h', toks := s.toks + 1 } := by
    refine byEA i₁.fr fun l e hl => ?_
    refine ⟨i₁.good, i₁.gens, i₁.os, lamEnv scope s.heap.objs.size f clos (q ++ ".<locals>.") (.ref c') :: l, ?_, fun env' he => ?_⟩
    · show A.frames.map _ = _
      rw [e]; rfl
    · rcases List.mem_cons.mp he with rfl | he
      · exact ⟨by show scope.kind ≠ _; rw [hk]; decide, s.heap.objs.size, oL, es, ep, rfl, O.size _ i.good, h1, h2, h3⟩
      · exact hl env' he
  refine codeExpr (y.run _ _ V _ _ _ (rm.deeper _) ⟨hk, rfl, rfl, fun _ => rfl⟩ i₂ ⟨fun b q => ?_, fun n sl e => ?_⟩ fun v' s' i' k' l' => ?_)
  · refine byEA (dm b q) fun o e n => ?_
    exact ⟨o, hk' b o e, n⟩
  · rw [List.lookup_cons] at e
    cases hn : n == x with
    | true =>
      rw [hn] at e; cases e
      obtain rfl := beq_iff_eq.mp hn
      exact ⟨v, .inl ⟨hx, _, hm, if_pos rfl⟩, lv.kp kp₁⟩
    | false =>
      rw [hn] at e
      obtain ⟨a, c, w, b, d, g⟩ := ca n sl e
      exact ⟨w, .inr ⟨.inr a, c, b, d.kept fun o eo => kp₁ _ o eo⟩, g.kp kp₁⟩
  · exact hQ v' s' i'.shallow (kp₁.trans k') l'
end
noncomputable def sortTail (a : Addr) (before : Nat) (keyStore : Value) (st : SortSt) : Sem PySem.Fin := do
  let sorted := (arrOf st).map (·.2)
  Builtin.List.listUpdate keyStore fun _ => #[]
  letGo ((arrOf st).map (·.1)).toList (failedOf st).toList
  let touched := (<- seqEpoch a) != before
  Builtin.List.listUpdate (.ref a) fun _ => sorted
  if let some e := failedOf st then rule "list.sort.comparison-raised"; throw e
  if touched then rule "list.sort.modified"; raiseError "ValueError" "list modified during sort"
  ret .none
noncomputable def sortKeyed (a : Addr) (f : Value) (items : Array Value) (before : Nat) (keyStore : Value) : Sem PySem.Fin := do
  rule "list.sort.key"
  for x in items do
    match <- (call f [x]).attempt with
    | .ok k => Builtin.List.listUpdate keyStore (·.push k)
    | .error e =>
      rule "list.sort.key-raised"
      let made <- Builtin.List.listItems keyStore
      Builtin.List.listUpdate keyStore fun _ => #[]
      letGo made.toList.reverse [e]
      Builtin.List.listUpdate (.ref a) fun _ => items; throw e
  let keys <- Builtin.List.listItems keyStore
  let kind <- if items.size < 2 then pure general' else keyKind' keys
  let ((), st) <- (if items.size < 2 then pure () else sortRuns').run (SortSt.mk' kind (keys.zip items) #[] 7 none)
  sortTail a before keyStore st
theorem sort_key_eq (f a : Addr) : Builtin.«list.sort» ⟨[.ref a], [(Str.ofString "key", .ref f)]⟩ = (do
    let items <- Builtin.List.listItems (.ref a)
    Builtin.List.listUpdate (.ref a) fun _ => #[]
    let before <- seqEpoch a
    let held <- newTuple items.toList
    let keyStore <- PySem.newList []
    holding [held, keyStore] (sortKeyed a (.ref f) items before keyStore)) := rfl
theorem argsKey_sorted (a v : Value) : argsOk "sorted" ⟨[a], [(Str.ofString "key", v)]⟩ := by unfold argsOk; kernel_rfl
theorem argsKey_sort (a v : Value) : argsOk "list.sort" ⟨[a], [(Str.ofString "key", v)]⟩ := by unfold argsOk; kernel_rfl
noncomputable def sortK (key : Int -> Str) (l : List Int) : List Int := l.mergeSort fun a b => strLe (key a) (key b)
theorem sortK_perm (key : Int -> Str) (l : List Int) : (sortK key l).Perm l := List.mergeSort_perm l _
theorem sortK_sorted (key : Int -> Str) (l : List Int) : (sortK key l).Pairwise fun a b => strLe (key a) (key b) = true :=
  List.pairwise_mergeSort (le := fun a b => strLe (key a) (key b)) (fun a b c => strLe_trans (key a) (key b) (key c)) (fun a b => strLe_total (key a) (key b)) l
theorem sortK_unique {key : Int -> Str} {l r : List Int} (inj : ∀ a ∈ l, ∀ b ∈ l, key a = key b -> a = b) (p : r.Perm l) (h : r.Pairwise fun a b => strLe (key a) (key b) = true) : r = sortK key l :=
  List.Perm.eq_of_pairwise (fun a b ha hb x y => inj a (p.mem_iff.mp ha) b ((sortK_perm key l).mem_iff.mp hb) (strLe_anti x y)) h (sortK_sorted key l) (p.trans (sortK_perm key l).symm)
theorem zip_map_self {α β : Type} (f : α -> β) : ∀ l : List α, (l.map f).zip l = l.map fun a => (f a, a)
  | [] => rfl
  | a :: l => congrArg _ (zip_map_self f l)
theorem intsAre_map : ∀ (vs : List Value), (∀ v ∈ vs, ∃ n t, v = .int n t) -> IntsAre vs (vs.map numOf)
  | [], _ => .nil
  | v :: r, h => by
    obtain ⟨n, t, rfl⟩ := h v (.head _)
    exact .cons n t (intsAre_map r fun w hw => h w (.tail _ hw))
theorem sortK_out {keys : Array Value} {vs : List Value} {ns : List Int} {key : Int -> Str} (hk : StrsAre keys.toList (ns.map key)) (hv : IntsAre vs ns) (inj : ∀ a ∈ ns, ∀ b ∈ ns, key a = key b -> a = b) {xs : Array Keyed}
    (hp : xs.Perm (keys.zip vs.toArray)) (hs : SortedToK PyProof.Rows.strKind xs xs.size) : IntsAre (xs.map (·.2)).toList (sortK key ns) := by
  have hl : xs.toList.Perm (keys.toList.zip vs) := by
    have := Array.perm_iff_toList_perm.mp hp
    simpa using this
  have e1 : (keys.toList.zip vs).map (fun p => (strOf p.1, numOf p.2)) = ns.map fun n => (key n, n) := by
    rw [<- zip_map_self, <- hk.strs]
    conv => rhs; rw [<- hv.nums]
    exact (List.zip_map (f := strOf) (g := numOf) (l₁ := keys.toList) (l₂ := vs)).symm
  have h1 := hl.map (fun p => (strOf p.1, numOf p.2))
  rw [e1] at h1
  have h2 : ∀ p ∈ xs.toList, strOf p.1 = key (numOf p.2) /\ (∃ x t, p.1 = .str x t) /\ ∃ n t, p.2 = .int n t := fun p hp' => by
    have m := hl.mem_iff.mp hp'
    have m2 := List.of_mem_zip (a := p.1) (b := p.2) m
    refine ⟨?_, hk.all _ m2.1, hv.all _ m2.2⟩
    have m3 := h1.mem_iff.mp (List.mem_map_of_mem hp')
    obtain ⟨n, _, e⟩ := List.mem_map.mp m3
    injection e with ea eb
    rw [<- ea, <- eb]
  have e2 : (xs.map (·.2)).toList = xs.toList.map (·.2) := by simp
  rw [e2]
  have h3 := intsAre_map (xs.toList.map (·.2)) fun v hv' => by
    obtain ⟨p, hp', rfl⟩ := List.mem_map.mp hv'
    exact (h2 p hp').2.2
  rw [List.map_map] at h3
  have h4 : (xs.toList.map (numOf ∘ Prod.snd)).Perm ns := by
    have := h1.map Prod.snd
    rw [List.map_map, List.map_map] at this
    simpa [Function.comp_def] using this
  have h5 : (xs.toList.map (numOf ∘ Prod.snd)).Pairwise fun a b => strLe (key a) (key b) = true := by
    rw [List.pairwise_map]
    rw [List.pairwise_iff_getElem]
    intro i j hi hj hij
    have hi' : i < xs.size := by simpa using hi
    have hj' : j < xs.size := by simpa using hj
    have q := hs i j (Nat.le_of_lt hij) hj'
    obtain ⟨e3, ⟨x, t, ex⟩, _⟩ := h2 xs[i] (by simp)
    obtain ⟨e4, ⟨y, u, ey⟩, _⟩ := h2 xs[j] (by simp)
    rw [KK_str hi' (x := x) (t := t) (q := xs[i].2) (Prod.ext ex rfl), KK_str hj' (x := y) (t := u) (q := xs[j].2) (Prod.ext ey rfl)] at q
    change decide (y.cps.toList < x.cps.toList) = false at q
    simp only [Function.comp, Array.getElem_toList]
    rw [<- e3, <- e4, ex, ey]
    show decide (¬ y.cps.toList < x.cps.toList) = true
    simpa using q
  exact sortK_unique inj h4 h5 ▸ h3
section
variable {B : Base} {k : Nat} {K : Kinds} {Γ Γ' : G} {V V' V₀ W : Addr -> Prop} {h h' : Heap} {env : Env} {A : Around} {s : Shared}
theorem strs_snoc {x : Str} {t : Tok} : ∀ {vs : List Value} {ss : List Str}, StrsAre vs ss -> StrsAre (vs ++ [.str x t]) (ss ++ [x])
  | _, _, .nil => .cons x t .nil
  | _, _, .cons y u r => .cons y u (strs_snoc r)
structure SortAt (B : Base) (A : Around) (h₀ : Heap) (a kS : Addr) (e1 : Nat) (kA : Array Value) (s : Shared) : Prop where
  i : Inv B A s
  kp : Kp h₀ s.heap
  la : s.heap.get? a = some (seqObj "list" #[] e1)
  lk : ∃ e, s.heap.get? kS = some (seqObj "list" kA e)
theorem upd_seq (O : B.Ok) {h₀ : Heap} {b : Addr} {xs : Array Value} {n tk : Nat} (i : Inv B A s) (kp : Kp h₀ s.heap) (lo : B.n₀ ≤ b) (nb : h₀.get? b = none) (e : s.heap.get? b = some (seqObj "list" xs n)) (g : Array Value → Array Value) :
    Inv B A { s with heap := s.heap.update b (Obj.mapSeq g), toks := tk } ∧ Kp h₀ (s.heap.update b (Obj.mapSeq g)) ∧ (∃ m, (s.heap.update b (Obj.mapSeq g)).get? b = some (seqObj "list" (g xs) m)) ∧ ∀ c o, c ≠ b → s.heap.get? c = some o → (s.heap.update b (Obj.mapSeq g)).get? c = some o :=
  ⟨i.sameBut O (Heap.SameBut.update ..) lo fun o e' => by rw [e] at e'; cases e'; simp, kp.but (Heap.SameBut.update ..) nb, ⟨_, get?_update_seq e g⟩, fun c o ne e' => ((Heap.SameBut.update s.heap b _).2 c ne).trans e'⟩
theorem sort_loop (O : B.Ok) {h₀ : Heap} {a kS : Addr} {e1 : Nat} {key : Int -> Str} {body : Value -> PUnit -> Sem (ForInStep PUnit)} {R : PUnit -> Shared -> Prop} {E : Value -> Shared -> Prop} (lo : B.n₀ <= kS) (nb : h₀.get? kS = none) (hne : a ≠ kS)
    (S : Int -> Prop) (hbody : ∀ n t kA e1 Q s, S n -> SortAt B A h₀ a kS e1 kA s -> kA.size < 64 -> (∀ t' s', SortAt B A h₀ a kS e1 (kA.push (.str (key n) t')) s' -> Q (.yield ⟨⟩) s') -> wpAny B.M A (body (.int n t) ⟨⟩) Q E s) :
    ∀ (vs : List Value) (ns : List Int) (kA : Array Value) (ks : List Str) (s : Shared), IntsAre vs ns -> (∀ n ∈ ns, S n) -> StrsAre kA.toList ks -> SortAt B A h₀ a kS e1 kA s -> kA.size + vs.length < 64 ->
      (∀ kA' s', StrsAre kA'.toList (ks ++ ns.map key) -> SortAt B A h₀ a kS e1 kA' s' -> R ⟨⟩ s') -> wpAny B.M A (forIn vs PUnit.unit body) R E s
  | _, _, kA, ks, s, .nil, _, hk, st, _, hR => by
    rw [List.forIn_nil]
    exact wpAny_pure (hR kA s (by simpa using hk) st)
  | _, _, kA, ks, s, .cons n t (vs := vs) (ns := ns) r, hS, hk, st, hz, hR => by
    rw [List.forIn_cons]
    refine wpAny_bind (hbody n t kA e1 _ s (hS n (.head _)) st (by simp at hz; omega) fun t' s' st' => ?_)
    refine sort_loop O lo nb hne S hbody vs ns (kA.push (.str (key n) t')) (ks ++ [key n]) s' r (fun m hm => hS m (.tail _ hm)) (by rw [Array.toList_push]; exact strs_snoc hk) st' (by simp at hz ⊢; omega) fun kA' s'' hk' st'' => hR kA' s'' (by simpa using hk') st''
theorem sort_keyed (O : B.Ok) {h₀ : Heap} {a kS f : Addr} {e1 : Nat} {vs : List Value} {ns : List Int} {key : Int -> Str} {Q : PySem.Fin -> Shared -> Prop} {E : Value -> Shared -> Prop}
    (loa : B.n₀ <= a) (na : h₀.get? a = none) (lok : B.n₀ <= kS) (nk : h₀.get? kS = none) (hne : a ≠ kS) (hv : IntsAre vs ns) (h64 : ns.length < 64) (inj : ∀ x ∈ ns, ∀ y ∈ ns, key x = key y -> x = y)
    (turn : ∀ n t s' R, n ∈ ns -> Inv B A s' -> Kp h₀ s'.heap -> (∀ t' s'', Inv B A s'' -> Kp s'.heap s''.heap -> R (.str (key n) t') s'') -> wpAny B.M A (call (.ref f) [.int n t]) R (fun _ _ => False) s')
    (st : SortAt B A h₀ a kS e1 #[] s) (hQ : ∀ s' out m, Inv B A s' → Kp h₀ s'.heap → s'.heap.get? a = some (seqObj "list" out m) → IntsAre out.toList (sortK key ns) → Q (.done (.ret .none)) s') :
    wpAny B.M A (sortKeyed a (.ref f) vs.toArray e1 (.ref kS)) Q E s := by
  have hlen := hv.length
  unfold sortKeyed
  refine wpAny_bind (wpAny_rule ?_)
  rw [<- Array.forIn_toList]
  refine wpAny_bind (sort_loop O (key := key) lok nk hne (· ∈ ns) (fun n t kA e1 R s hn st hz hR => ?_) vs ns #[] [] s hv (fun _ z => z) (by simpa using StrsAre.nil) st (by simp; omega) fun kA s' hk st' => ?_)
  · refine wpAny_bind (wpAny_attempt (wpAny_mono (turn n t s _ hn st.i st.kp fun t' s' i' k' => ?_) (fun _ _ z => z) fun _ _ z => z.elim))
    obtain ⟨e, hk⟩ := st.lk
    have hk' := (k' _ _ hk).exact (by simp) (by simp)
    have la' := (k' _ _ st.la).exact (by simp) (by simp)
    have u := upd_seq O (tk := s'.toks) i' (st.kp.trans k') lok nk hk' (·.push (.str (key n) t'))
    refine wpAny_bind (listUpdate_at hk' rfl ?_ (by rw [sizeLine_eq]; omega) (by rw [Array.size_push, sizeLine_eq]; omega))
    exact wpAny_pure (hR t' _ ⟨u.1, u.2.1, u.2.2.2 _ _ hne la', u.2.2.1⟩)
  · obtain ⟨e, hk'⟩ := st'.lk
    have hks : kA.size = vs.length := by
      have := hk.length
      simp at this
      omega
    refine wpAny_bind (listItems_at hk' rfl ?_)
    have tail : ∀ st : SortSt, (arrOf st).Perm (kA.zip vs.toArray) -> failedOf st = none -> SortedToK PyProof.Rows.strKind (arrOf st) (arrOf st).size -> wpAny B.M A (sortTail a e1 (.ref kS) st) Q E s' := by
      intro st hp hf hs
      have hsz : (arrOf st).size = vs.length := by rw [hp.size_eq, Array.size_zip, hks]; simp
      unfold sortTail
      have u := upd_seq O (tk := s'.toks) st'.i st'.kp lok nk hk' (fun _ => #[])
      refine wpAny_bind (listUpdate_at hk' rfl ?_ (by rw [hks, sizeLine_eq]; omega) (Nat.zero_le _))
      refine wpAny_bind (wpAny_letGo ?_)
      have la' := u.2.2.2 _ _ hne st'.la
      refine wpAny_bind (seqEpoch_at la' rfl ?_)
      have u2 := upd_seq O (s := { s' with heap := s'.heap.update kS (Obj.mapSeq fun _ => #[]) }) (tk := s'.toks) u.1 u.2.1 loa na la' (fun _ => (arrOf st).map (·.2))
      refine wpAny_bind (listUpdate_at la' rfl ?_ (Nat.zero_le _) (by rw [Array.size_map, hsz, sizeLine_eq]; omega))
      rw [hf]
      simp only [bne_self_eq_false, Bool.false_eq_true, if_false]
      obtain ⟨m, hm⟩ := u2.2.2.1
      exact wpAny_pure (hQ _ _ m u2.1 u2.2.1 hm (sortK_out (by simpa using hk) hv inj hp hs))
    by_cases h2 : vs.toArray.size < 2
    · rw [if_pos h2, if_pos h2]
      refine wpAny_bind (wpAny_pure ?_)
      dsimp only
      rw [StateT.run_pure]
      refine wpAny_bind (wpAny_pure (tail _ (Array.Perm.refl _) rfl fun i j hij hj => ?_))
      have hj2 : j < (kA.zip vs.toArray).size := hj
      rw [Array.size_zip, hks] at hj2
      simp at h2 hj2
      have : i = j := by omega
      subst this
      exact KeyOrd.kle_refl _
    · rw [if_neg h2, if_neg h2]
      have kk : keyKind' kA = pure oneType' := by
        obtain ⟨v₁, v₂, rest, e⟩ : ∃ v₁ v₂ rest, kA.toList = v₁ :: v₂ :: rest := by
          have hl : 2 <= kA.toList.length := by simp at h2 ⊢; omega
          match kA.toList, hl with
          | v₁ :: v₂ :: rest, _ => exact ⟨v₁, v₂, rest, rfl⟩
        have ek : kA = (v₁ :: v₂ :: rest).toArray := by rw [<- e]
        rw [ek]
        exact keyKind_strs (by rw [<- e]; exact hk)
      rw [kk]
      refine wpAny_bind (wpAny_pure ?_)
      dsimp only
      have hzs : (kA.zip vs.toArray).size = vs.length := by rw [Array.size_zip, hks]; simp
      refine wpAny_bind (wpAny_mono (wpS_sortRunsK (κ := PyProof.Rows.strKind) strKind_oneLt (a₀ := kA.zip vs.toArray) (st := SortSt.mk' oneType' (kA.zip vs.toArray) #[] 7 none)
        (Q := fun _ st' => (arrOf st').Perm (kA.zip vs.toArray) /\ failedOf st' = none /\ SortedToK PyProof.Rows.strKind (arrOf st') (kA.zip vs.toArray).size)
        (fun p hp => ?_) ⟨Array.Perm.refl _, rfl, rfl, rfl⟩ (by rw [hzs]; simp at h2; omega) (by rw [hzs]; omega) fun st' a1 a2 a3 => ⟨a1, a2, a3⟩) ?_ fun _ _ e => e)
      · have hp' : p ∈ kA.toList.zip vs := by simpa using hp
        obtain ⟨x, t, e⟩ := hk.all _ (List.of_mem_zip (a := p.1) (b := p.2) hp').1
        rw [e]
        exact ⟨_, rfl⟩
      · rintro ⟨⟨⟩, st₂⟩ s₂ ⟨rfl, hp, hf, hs⟩
        exact tail st₂ hp hf (by rw [hp.size_eq]; exact hs)
end
section
variable {B : Base} {k : Nat} {K : Kinds} {Γ Γ' : G} {V V' V₀ W : Addr -> Prop} {h h' : Heap} {env : Env} {A : Around} {s : Shared}
theorem sorted_shell (O : B.Ok) {l f : Addr} {vs : List Value} {ns : List Int} {key : Int -> Str} {Q : Value -> Shared -> Prop} {E : Value -> Shared -> Prop}
    (i : Inv B A s) (hl : s.heap.IsList l vs.toArray) (hv : IntsAre vs ns) (h64 : ns.length < 64) (inj : ∀ x ∈ ns, ∀ y ∈ ns, key x = key y -> x = y)
    (turn : ∀ n t s' R, n ∈ ns -> Inv B A s' -> Kp s.heap s'.heap -> (∀ t' s'', Inv B A s'' -> Kp s'.heap s''.heap -> R (.str (key n) t') s'') -> wpAny B.M A.in1.in1 (call (.ref f) [.int n t]) R (fun _ _ => False) s')
    (hQ : ∀ a s' out m, Inv B A s' → Kp s.heap s'.heap → s.heap.get? a = none → B.n₀ ≤ a → s'.heap.get? a = some (seqObj "list" out m) → IntsAre out.toList (sortK key ns) → Q (.ref a) s') :
    wpAny B.M A (call (.builtin "sorted") [.ref l] [(Str.ofString "key", .ref f)]) Q E s := by
  have hlen := hv.length
  refine call_function_entry_kw kind_sorted plain_sorted entry_sorted (argsKey_sorted _ _) ?_
  unfold Builtin.«sorted»
  refine wpAny_bind (m := checkCount "sorted" 1 1 _) (wpAny_pure ?_)
  refine wpAny_bind (collect_list hl ?_ (by rw [sizeLine_eq]; omega))
  refine wpAny_bind (wpAny_newList ?_ (by rw [sizeLine_eq]; omega))
  have hsz : ((s.heap.push (seqObj "list" #[] 0)).update s.heap.objs.size (Obj.mapSeq (· ++ vs.toArray))).objs.size = s.heap.objs.size + 1 := by rw [Heap.size_update, size_push']
  have keep₁ : ∀ b o, s.heap.get? b = some o → ((s.heap.push (seqObj "list" #[] 0)).update s.heap.objs.size (Obj.mapSeq (· ++ vs.toArray))).get? b = some o := fun b o e => by
    rw [Heap.get?_update_ne _ _ _ _ (Nat.ne_of_lt (Heap.lt_size e))]
    exact Heap.get?_push_of_some _ e
  show wpAny _ _ _ _ _ { s with heap := ((s.heap.push (seqObj "list" #[] 0)).update s.heap.objs.size (Obj.mapSeq (· ++ vs.toArray))).push (seqObj "list" vs.toArray 0) }
  rw [hsz]
  generalize ((s.heap.push (seqObj "list" #[] 0)).update s.heap.objs.size (Obj.mapSeq (· ++ vs.toArray))) = H₁ at hsz keep₁ ⊢
  have hoL : (H₁.push (seqObj "list" vs.toArray 0)).get? (s.heap.objs.size + 1) = some (seqObj "list" vs.toArray 0) := by rw [← hsz]; exact Heap.get?_push_size _ rfl
  have keep₂ : ∀ b o, s.heap.get? b = some o → (H₁.push (seqObj "list" vs.toArray 0)).get? b = some o := fun b o e => Heap.get?_push_of_some _ (keep₁ b o e)
  have hs2 : (H₁.push (seqObj "list" vs.toArray 0)).objs.size = s.heap.objs.size + 2 := by rw [size_push', hsz]
  generalize (H₁.push (seqObj "list" vs.toArray 0)) = H₂ at hoL keep₂ hs2 ⊢
  have i₂ : Inv B A { s with heap := H₂ } := i.keep O (tk := s.toks) keep₂
  have na : s.heap.get? (s.heap.objs.size + 1) = none := none_size (Nat.le_succ _)
  have lo := O.size _ i.good
  have loa : B.n₀ <= s.heap.objs.size + 1 := Nat.le_succ_of_le lo
  refine wpAny_bind (wpAny_holding (wpAny_call_entry_kw slot_list_sort ⟨_, hoL, rfl⟩ entry_list_sort ?body (argsKey_sort _ _)))
  case body =>
    rw [sort_key_eq]
    refine wpAny_bind (listItems_at hoL rfl ?_)
    have u := upd_seq O (s := { s with heap := H₂ }) (h₀ := s.heap) (tk := s.toks) i₂ (.of keep₂) loa na hoL (fun _ => #[])
    refine wpAny_bind (listUpdate_at hoL rfl ?_ (by rw [List.size_toArray, sizeLine_eq]; omega) (Nat.zero_le _))
    obtain ⟨e1, h1⟩ := u.2.2.1
    refine wpAny_bind (seqEpoch_at h1 rfl ?_)
    refine wpAny_bind (wpAny_newTuple ?_ (by show vs.length <= _; rw [sizeLine_eq]; omega))
    refine wpAny_bind (wpAny_newList ?_ (Nat.zero_le _))
    refine wpAny_holding ?_
    have hs3 : (H₂.update (s.heap.objs.size + 1) (Obj.mapSeq fun _ => #[])).objs.size = s.heap.objs.size + 2 := by rw [Heap.size_update, hs2]
    generalize (H₂.update (s.heap.objs.size + 1) (Obj.mapSeq fun _ => (#[] : Array Value))) = H₃ at u h1 hs3 ⊢
    have hs4 : (H₃.push (seqObj "tuple" vs.toArray 0)).objs.size = s.heap.objs.size + 3 := by rw [size_push', hs3]
    show wpAny _ _ (sortKeyed _ _ _ _ (.ref (H₃.push (seqObj "tuple" vs.toArray 0)).objs.size)) _ _ { s with heap := (H₃.push (seqObj "tuple" vs.toArray 0)).push (seqObj "list" #[] 0) }
    have keep₄ : ∀ b o, H₃.get? b = some o → ((H₃.push (seqObj "tuple" vs.toArray 0)).push (seqObj "list" #[] 0)).get? b = some o := fun b o e => Heap.get?_push_of_some _ (Heap.get?_push_of_some _ e)
    refine sort_keyed O (h₀ := s.heap) (key := key) (ns := ns) loa na (by rw [hs4]; omega) (by rw [hs4]; exact none_size (Nat.le_add_right _ _)) (by rw [hs4]; exact Nat.ne_of_lt (by omega)) hv h64 inj (fun n t s' R hn i' k' hR => turn n t s' R hn i'.of_in1.of_in1 k' fun t' s'' i'' k'' => hR t' s'' i''.in1.in1 k'')
      ⟨(u.1.keep O (tk := s.toks) keep₄).in1.in1, u.2.1.trans (.of keep₄), keep₄ _ _ h1, _, Heap.get?_push_size _ rfl⟩ fun s' out m i' k' la io => ⟨_, rfl, ?_⟩
    exact wpAny_pure ⟨_, rfl, hQ _ s' out m i'.of_in1.of_in1 k' na loa la io⟩
variable {π : Env -> Prop}
theorem EvE.of {e : Expr} {d : D} (x : Ev B k K Γ e d) : EvE π B k K Γ e d := .mk fun A env V s Q E _ => x.run A env V s Q E
theorem EvLE.two {e e' : Expr} {d d' : D} (x : EvE π B k K Γ e d) (y : EvE π B k K Γ e' d') (hn : notStar e = true := by rfl) (hn' : notStar e' = true := by rfl) : EvLE π B k K Γ [e, e'] [d, d'] := .mk fun p A env V s Q E hπ rm o i g h => by
  rw [starEach_cons hn, starEach_cons hn', starEach_nil]
  refine Calls.spliced_cons (x.run A env V s _ E hπ rm o i g fun v s₁ i₁ k₁ l₁ => Calls.spliced_cons (y.run A env V s₁ _ E hπ rm o i₁ (g.kp k₁) fun v' s₂ i₂ k₂ l₂ => Calls.spliced_nil (h [v, v'] s₂ i₂ (k₁.trans k₂) ?_)))
  exact ⟨v, _, rfl, l₁.kp k₂, v', _, rfl, l₂, rfl⟩
theorem ExE.cons {Γ₁ Γ₂ : G} {st : Stmt} {ss : List Stmt} {o : Out} (x : Ex1 B k K Γ st .next Γ₁) (y : ExE π B k K Γ₁ ss o Γ₂) : ExE π B k K Γ (st :: ss) o Γ₂ :=
  .mk fun A env V₀ W s Q E hπ r eo i z h => wpAny_execs_cons (x.run A env V₀ W s _ E r eo i z fun fl s' W' i' dm ex z' ou => by
    obtain rfl : fl = .next := ou
    exact y.run A env V₀ W' s' Q E hπ r eo i' z' fun fl s'' W'' i'' dm' ex' z'' ou' => h fl s'' W'' i'' (dm.trans dm') (ex.trans ex' dm) z'' ou')
theorem ExE.turn {Γ₁ Γ₂ : G} {st : Stmt} {ss : List Stmt} {o : Out} (x : Ex1E π B k K Γ st .next Γ₁) (y : Ex B k K Γ₁ ss o Γ₂) : ExE π B k K Γ (st :: ss) o Γ₂ :=
  .mk fun A env V₀ W s Q E hπ r eo i z h => wpAny_execs_cons (x.run A env V₀ W s _ E hπ r eo i z fun fl s' W' i' dm ex z' ou => by
    obtain rfl : fl = .next := ou
    exact y.run A env V₀ W' s' Q E r eo i' z' fun fl s'' W'' i'' dm' ex' z'' ou' => h fl s'' W'' i'' (dm.trans dm') (ex.trans ex' dm) z'' ou')
theorem ExE.share {ss : List Stmt} {o : Out} {x : Str} {d : D} (y : ExE π B k K (put Γ x (.sh d)) ss o Γ') (hx : Γ.lookup x = some (.own none d)) : ExE π B k K Γ ss o Γ' := .mk fun A env V₀ W s Q E hπ rm eo i st h => by
  refine byEA (st.share hx) fun W' hw st' => ?_
  exact y.run A env V₀ W' s Q E hπ rm eo i st' fun fl s' W'' i' dm ex st'' ou => h fl s' W'' i' dm ⟨fun b q => (ex.new b q).imp (hw b) id, fun b o nb e => ex.kp b o (fun q => nb (hw b q)) e⟩ st'' ou
noncomputable def FnCd (B : Base) (name : Str) (c : Addr) : Prop := ∀ a h, B.mg name = some (.ref a) -> B.good h -> ∃ o fd, h.get? a = some o /\ o.data = .func fd /\ fd.code = .ref c
theorem Calls.ofE (O : B.Ok) {name : Str} {c : Addr} {params : Arguments} {body : List Stmt} {scope : Scope} {ds ds' : List D} {xs : List Str} {o : Out} {Γ' : G} (F : FnAt B name params body scope) (hc : FnCd B name c) (hb : Binds B name params body scope ds xs ds') (hbrk : o ≠ .brk)
    (y : ExE (fun env => env.code = .ref c ∧ env.qual = name ++ ".<locals>.") B k (fun y => scope.names.lookup y) (putAll [] xs ds') body o Γ') (hl : xs.length = ds'.length := by rfl) (hx : ∀ x ∈ xs, scope.names.lookup x = some .local ∨ scope.names.lookup x = some .cell := by decide)
    (hk : scope.kind = .function := by rfl) (hco : scope.isCoroutine = false := by rfl) (hgen : scope.isGenerator = false := by rfl) : Calls B (k + 1) name ds o.val := fun A V s vs Q E rm i dm ls h => by
  (refine byEE (F) fun a pm hr3 => ?_; (try clear F); refine byEEA (hr3) fun cd doc hm hh => ?_; (try clear hr3))
  refine ⟨a, hm, wpAny_call ?_⟩
  (refine byA (hh _ i.good) fun hp4 hcd => ?_; obtain ⟨ob, hob, hod⟩ := hp4)
  have ec : cd = .ref c := by
    obtain ⟨o', fd, e1, e2, e3⟩ := hc a _ hm i.good
    rw [hob] at e1; cases e1
    rw [hod] at e2
    injection e2 with e2
    rw [<- e2] at e3
    exact e3
  refine codeAny_call_function (body := body) (fd := docDef name params body scope pm cd doc) (prog := B.prog) (w := B.w) (by have := rm.depth; show A.depth < 1000; omega) hob hod hco hgen rfl hcd ?_
  refine hb pm cd doc A.in1 V s vs _ _ i.in1 dm ls fun vs' s₁ i₁ k₁ l₁ => ?_
  refine fn_frame O hk i₁ (fun b hb' => let ⟨o', e, n⟩ := dm b hb'; (k₁ b o' e).q.ex n) l₁ hl hx fun env s₂ W he i₂ k₂ wn eo st => ⟨O.nolimit _ i₂.good, ?_⟩
  have i₃ : Inv B (A.deeper env) s₂ := Inv.deeper i₂.of_in1 eo st
  refine codeAny_func (prog := B.prog) (w := B.w) (y.run (A.deeper env) env V W s₂ _ _ ⟨by rw [he]; exact ec, by rw [he]; rfl⟩ (rm.deeper env) eo i₃ st fun fl s₄ W₄ i₄ d₄ e₄ st₄ ou => ?_)
  have kk : Kp s.heap s₄.heap := (k₁.trans k₂).trans_off e₄.kp fun b o e q => by
    cases e1 : s₁.heap.get? b with
    | none => refine byE ((k₁ b o e).ex) fun _ z => ?_; rw [e1] at z; cases z
    | some _ => rw [wn b q] at e1; cases e1
  cases o with
  | next =>
    obtain rfl : fl = .next := ou
    exact h .none s₄ i₄.shallow kk rfl
  | brk => exact absurd rfl hbrk
  | ret d =>
    (refine byEA (ou) fun v hq5 lv => ?_; (try clear ou); subst hq5)
    exact h v s₄ i₄.shallow kk (lv.mono fun b o nb e _ => ⟨fun q => nb (.inl q), e⟩)
structure LamOk (K : Kinds) (Γ Γc : G) (scope : Scope) (x : Str) : Prop where
  kind : scope.kind = .function
  co : scope.isCoroutine = false
  gen : scope.isGenerator = false
  nc : ∀ p ∈ scope.names, p.2 ≠ .cell
  loc : scope.names.lookup x = some .local
  free : ∀ p ∈ scope.names, p.2 = .free -> (Γ.lookup p.1).isSome = true /\ (K p.1 = some .cell \/ K p.1 = some .free)
  cap : ∀ y sl, Γc.lookup y = some sl -> scope.names.lookup y = some .free /\ Γ.lookup y = some sl /\ (K y = some .cell \/ K y = some .free)
theorem EvE.sortedKey (O : B.Ok) {c P : Addr} {lp pz pc kp : Pos} {q x : Str} {arg body : Expr} {params : Arguments} {scope : Scope} {Γc : G} {ns : List Int} {key : Int → Str} (hq : ∀ env, π env → env.code = .ref c ∧ env.qual = q) (L : LamAt B c P lp (q ++ "<lambda>"))
    (bl : BltAt B "sorted" (.builtin "sorted")) (hK : K "sorted" = some .globalImplicit) (xa : EvB B (k + 3) K Γ arg (.list (il ns))) (lo : LamOk K Γ Γc scope x) (h64 : ns.length < 64) (inj : ∀ x ∈ ns, ∀ y ∈ ns, key x = key y → x = y)
    (y : ∀ n ∈ ns, Ev B k (fun y => scope.names.lookup y) ((x, .sh (.int n)) :: Γc) body (.str (key n)))
    (hb : ∀ q cl pm cd ct v, bindArgs (lamFd "<lambda>" q params body scope cl pm cd ct) ⟨[v], []⟩ = pure [(x, v)] := by intros; rfl) (hd : ∀ env, defaultsOf params env = ([], []) := by intro _; rfl) (hn : notStar arg = true := by rfl) :
    EvE π B (k + 3) K Γ (.Call (.Name "sorted" pz) [arg] [⟨some "key", .Lambda params body scope lp, kp⟩] pc) (.list (il (sortK key ns))) := .mk fun A env V s Q E hπ rm eo i g h => by
  obtain ⟨hc, hqu⟩ := hq env hπ
  have he : eval (.Call (.Name "sorted" pz) [arg] [⟨some "key", .Lambda params body scope lp, kp⟩] pc) env = (do callWith pc (← eval (.Name "sorted" pz) env) [] (backTo pc (starEach [arg] env)) (backToKw pc (keywordEach [⟨some "key", .Lambda params body scope lp, kp⟩] env))) := rfl
  rw [he]
  refine wpAny_bind (glob_blt O bl hK eo i ?_)
  refine callWith_kw ?_ (by rw [starEach_cons hn]; rfl) (by rw [starEach_cons hn]; rfl) rfl rfl
  rw [starEach_cons hn, starEach_nil]
  refine Calls.spliced_cons (xa.run A env V s _ E rm eo i g fun v s₁ i₁ k₁ l₁ => Calls.spliced_nil (kws_cons ?_))
  have hcl : closureFor scope env = pure (closL (cellAdr env) scope.names []) := closureFor_eq fun p hp hf => by
    obtain ⟨a, b⟩ := lo.free p hp hf
    refine byE (Option.isSome_iff_exists.mp a) fun sl e => ?_
    refine byEA (g.vars _ _ e) fun v l _ => ?_
    rcases l with ⟨q, _⟩ | ⟨_, c, q, _⟩
    · rw [eo.kind] at q; rcases b with b | b <;> (rw [q] at b; cases b)
    · rw [q]; rfl
  refine lam_make O (by rw [hqu]; exact L) hc eo.glob i₁ hcl (hd env) fun f s₂ i₂ k₂ F => kws_nil ?_
  rw [hqu] at F
  refine byEEA (l₁.kp k₂).asList fun a its e hr => ?_
  subst e
  obtain ⟨hl, ls⟩ := hr
  have ca : CapAt B V s₂.heap scope.names (closL (cellAdr env) scope.names []) Γc := fun y sl e => by
    obtain ⟨a1, a2, a3⟩ := lo.cap y sl e
    refine byEA ((g.kp (k₁.trans k₂)).vars _ _ a2) fun w l hh => ?_
    rcases l with ⟨q, _⟩ | ⟨_, cc, q, cw⟩
    · rw [eo.kind] at q; rcases a3 with b | b <;> (rw [q] at b; cases b)
    · refine ⟨a1, cc, w, ?_, cw, hh⟩
      rw [closL_free _ _ _ _ a1]
      unfold cellAdr
      rw [q]; rfl
  have hdm : ∀ b, V b -> ∃ o, s₂.heap.get? b = some o /\ ¬ IsPriv o := fun b hb => (g.kp (k₁.trans k₂)).domP b hb
  show wpAny B.M A (call (.builtin "sorted") [.ref a] [(Str.ofString "key", .ref f)]) Q E s₂
  refine sorted_shell O (vs := its.toList) (key := key) i₂ (by simpa using hl.isList) (intsAre_of ls) h64 inj (fun n t s' R hn i' k' hR => ?_) fun a' s' out m i' k' na loa ha io => ?_
  · refine lam_call O (V := V) (d := .int n) (F.kp k') (hb _ _) lo.kind lo.co lo.gen lo.nc lo.loc (y n hn) rm.in1.in1 i'.in1.in1 (fun b hb => ?_) ⟨t, rfl⟩ (ca.kp k') fun v' s'' i'' k'' l'' => ?_
    · refine byEA (hdm b hb) fun o e no => ?_
      exact (k' b o e).q.ex no
    · obtain ⟨t', rfl⟩ := l''
      exact hR t' s'' i''.of_in1.of_in1 k''
  · refine h _ s' i' ((k₁.trans k₂).trans k') ⟨a', rfl, fun q => ?_, out, ⟨m, ha⟩, lays_intsAre io⟩
    refine byEA (hdm a' q) fun o e _ => ?_
    rw [na] at e; cases e
end
section
variable {B : Base} {k : Nat} {K : Kinds} {Γ Γ' : G}
inductive WhileX (B : Base) (k : Nat) (K : Kinds) (test : Expr) (body : List Stmt) : Nat -> G -> G -> Prop
  | stop {X : G} : EvTX B k K X test -> WhileX B k K test body 0 X X
  | turn {n : Nat} {X X₁ X₂ : G} : EvT B k K X test true -> Ex B k K X body .next X₁ -> WhileX B k K test body n X₁ X₂ -> WhileX B k K test body (n + 1) X X₂
theorem ExX1.whileX (O : B.Ok) {test : Expr} {body : List Stmt} {p : Pos} {n : Nat} (w : WhileX B k K test body n Γ Γ') : ExX1 B k K Γ (.While test body [] p) false Γ' := .mk fun A env V₀ W s Q E rm eo i st tp cr h => by
  refine wpAny_While (codeAny_whileLoop (prog := B.prog) (w := B.w) (fun n s' => ∃ W' X, Inv B A s' /\ Dom s.heap s'.heap /\ Ext W s.heap W' s'.heap /\ Stm B V₀ W' s'.heap env X /\ WhileX B k K test body n X Γ') ?_ n ⟨W, Γ, i, .refl _, .refl _ _, st, w⟩)
  rintro n s₁ ⟨W₁, X, i₁, d₁, e₁, st₁, w₁⟩
  have cr₁ := cr.ext e₁
  cases w₁ with
  | stop t =>
    refine t.run A env _ s₁ _ _ rm eo i₁ st₁.r cr₁ fun x s₂ i₂ k₂ xa => ?_
    have g₂ := st₁.kp k₂
    exact x_back O i₂ tp xa k₂.dom g₂.r.dom fun h' xc xa' => h x { s₂ with heap := h' } W₁ (i₂.xch O (tk := s₂.toks) xc) ((d₁.trans k₂.dom).trans xc.dom) ((xc.older d₁).ext (e₁.trans (Ext.of_kp (W := W₁) k₂) d₁)) (g₂.kq xc.kq) (xa'.older d₁)
  | turn t y w₂ =>
    refine t.run A env _ s₁ _ _ rm eo i₁ st₁.r fun s₂ i₂ k₂ => ?_
    rw [if_pos rfl]
    have d₂ := d₁.trans k₂.dom
    have e₂ := e₁.trans (Ext.of_kp (W := W₁) k₂) d₁
    refine y.run A env V₀ W₁ s₂ _ _ rm eo i₂ (st₁.kp k₂) fun fl s₃ W₃ i₃ d₃ e₃ st₃ ou => ?_
    obtain rfl : fl = .next := ou
    exact ⟨_, Nat.lt_succ_self _, W₃, _, i₃, d₂.trans d₃, e₂.trans e₃ d₂, st₃, w₂⟩
theorem WhileS.run {test : Expr} {body : List Stmt} {H : Int -> G} {x : Str} {Y : List Str} (ht : ∀ (j : Nat) d, Y[j]? = some d -> EvT B k K (H j) test (d == x)) (hb : ∀ j : Nat, j < Y.length -> Ex B k K (H j) body .next (H ((j : Int) + 1))) :
    ∀ (ds Yp Yq : List Str), Y = Yp ++ (ds ++ Yq) -> (∀ d ∈ ds, d = x) -> (∀ y, Yq.head? = some y -> (y == x) = false) -> Yq ≠ [] -> ∀ p : Int, p = (Yp.length : Nat) -> WhileS B k K test body ds.length (H p) (H ((Yp ++ ds).length : Nat))
  | [], Yp, [], e, hd, hq, hn, _, _ => absurd rfl hn
  | [], Yp, y :: Yq, e, hd, hq, hn, _, rfl => by
    rw [List.append_nil]
    have := ht Yp.length y (by rw [e]; simp)
    rw [hq y rfl] at this
    exact .stop this
  | d :: ds, Yp, Yq, e, hd, hq, hn, _, rfl => by
    have h1 := ht Yp.length d (by rw [e]; simp)
    rw [hd d (.head _), beq_self_eq_true] at h1
    have h2 := WhileS.run ht hb ds (Yp ++ [d]) Yq (by rw [e]; simp) (fun d' m => hd d' (.tail _ m)) hq hn ((Yp.length : Int) + 1) (by simp)
    have e2 : Yp ++ [d] ++ ds = Yp ++ d :: ds := by simp
    rw [e2] at h2
    exact .turn h1 (hb Yp.length (by rw [e]; simp)) h2
theorem WhileX.run {test : Expr} {body : List Stmt} {H : Int -> G} {x : Str} {Y : List Str} (ht : ∀ (j : Nat) d, Y[j]? = some d -> EvT B k K (H j) test (d == x)) (hb : ∀ j : Nat, j < Y.length -> Ex B k K (H j) body .next (H ((j : Int) + 1))) (hx : EvTX B k K (H (Y.length : Nat)) test) :
    ∀ (ds Yp : List Str), Y = Yp ++ ds -> (∀ d ∈ ds, d = x) -> ∀ p : Int, p = (Yp.length : Nat) -> WhileX B k K test body ds.length (H p) (H (Y.length : Nat))
  | [], Yp, e, hd, _, rfl => by
    rw [List.append_nil] at e
    rw [<- e]
    exact .stop hx
  | d :: ds, Yp, e, hd, _, rfl => by
    have h1 := ht Yp.length d (by rw [e]; simp)
    rw [hd d (.head _), beq_self_eq_true] at h1
    have h2 := WhileX.run ht hb hx ds (Yp ++ [d]) (by rw [e]; simp) (fun d' m => hd d' (.tail _ m)) ((Yp.length : Int) + 1) (by simp)
    exact .turn h1 (hb Yp.length (by rw [e]; simp)) h2
theorem MutR.popI (O : B.Ok) {l : List D} {i : Int} {d : D} (h0 : 0 ≤ i) (hd : l[i.toNat]? = some d) (hz : l.length ≤ sizeLine) : MutR B k (.builtin "list.pop") (.list l) [.int i] (.list (l.eraseIdx i.toNat)) d := by
  refine byE (Int.eq_ofNat_of_zero_le h0) fun n e => ?_
  subst e
  exact MutR.pop O hd hz
end
section
variable {B : Base} {k : Nat} {K : Kinds} {Γ Γ' Γ₁ : G} {σ τ : Type}
noncomputable def ExI (B : Base) (k : Nat) (K : Kinds) (Γ : G) (ss : List Stmt) (F : σ -> G) (I : σ -> Prop) : Prop := ∃ x, I x /\ Ex B k K Γ ss .next (F x)
theorem ExI.of {ss : List Stmt} {F : σ -> G} {I : σ -> Prop} (x : σ) (i : I x) (y : Ex B k K Γ ss .next (F x)) : ExI B k K Γ ss F I := ⟨x, i, y⟩
theorem ExI.nil {F : σ -> G} {I : σ -> Prop} (x : σ) (i : I x) (h : ∀ y sl, (F x).lookup y = some sl -> Γ.lookup y = some sl) : ExI B k K Γ [] F I := ⟨x, i, Ex.weak .nil h⟩
theorem ExI.cons {st : Stmt} {ss : List Stmt} {F : σ -> G} {I : σ -> Prop} (x : Ex1 B k K Γ st .next Γ₁) (y : ExI B k K Γ₁ ss F I) : ExI B k K Γ (st :: ss) F I := y.elim fun z h => ⟨z, h.1, .cons x h.2⟩
theorem turnI {t : Expr} {body : List Stmt} {d : D} {F : σ -> G} {I : σ -> Prop} (a : Asg B k K Γ t d Γ₁) (b : ExI B k K Γ₁ body F I) : ∃ X, Asg B k K Γ t d X /\ ExI B k K X body F I := ⟨Γ₁, a, b⟩
theorem Loop.ex {t : Expr} {body : List Stmt} {F : σ -> G} {J : List D -> σ -> Prop} (step : ∀ d ds x, J (d :: ds) x -> ∃ X, Asg B k K (F x) t d X /\ ExI B k K X body F (J ds)) : ∀ ds x, J ds x -> ∃ x', J [] x' /\ Loop B k K t body (F x) ds .next (F x')
  | [], x, h => ⟨x, h, .done⟩
  | d :: ds, x, h => by
    obtain ⟨X, a, x₁, j₁, b⟩ := step d ds x h
    obtain ⟨x', j', l⟩ := Loop.ex step ds x₁ j₁
    exact ⟨x', j', .step a b l⟩
theorem Ex.forI {fresh : Bool} {iter t : Expr} {body ss : List Stmt} {p : Pos} {ds : List D} {o : Out} (F : σ -> G) (J : List D -> σ -> Prop) (x₀ : σ) (it : EvI B k K (F x₀) iter fresh ds) (j : J ds x₀) (step : ∀ d ds x, J (d :: ds) x -> ∃ X, Asg B k K (F x) t d X /\ ExI B k K X body F (J ds))
    (y : ∀ x, J [] x -> Ex B k K (F x) ss o Γ') (ht : tgtOk fresh t = true := by rfl) (hf : ∀ env v, foldedSetIterable iter env v = pure v := by intro _ _; rfl) : Ex B k K (F x₀) (.For t iter body [] p :: ss) o Γ' := by
  obtain ⟨x', j', l⟩ := Loop.ex step ds x₀ j
  exact Ex.cons (Ex1.for_ it l ht hf) (y x' j')
theorem ExI.forI {fresh : Bool} {iter t : Expr} {body ss : List Stmt} {p : Pos} {ds : List D} {F' : τ -> G} {I : τ -> Prop} (F : σ -> G) (J : List D -> σ -> Prop) (x₀ : σ) (it : EvI B k K (F x₀) iter fresh ds) (j : J ds x₀) (step : ∀ d ds x, J (d :: ds) x -> ∃ X, Asg B k K (F x) t d X /\ ExI B k K X body F (J ds))
    (y : ∀ x, J [] x -> ExI B k K (F x) ss F' I) (ht : tgtOk fresh t = true := by rfl) (hf : ∀ env v, foldedSetIterable iter env v = pure v := by intro _ _; rfl) : ExI B k K (F x₀) (.For t iter body [] p :: ss) F' I := by
  obtain ⟨x', j', l⟩ := Loop.ex step ds x₀ j
  exact ExI.cons (Ex1.for_ it l ht hf) (y x' j')
theorem EvF.dict0 (O : B.Ok) {p : Pos} : EvF B k K Γ (.Dict [] [] p) (.dict []) := .mk fun A env V s Q E rm eo i g h => by
  have kp : ∀ b o, s.heap.get? b = some o → (s.heap.push { cls := .type "dict", data := .dict #[] }).get? b = some o := fun b o e => Heap.get?_push_of_some _ e
  refine wpAny_Dict_empty (h s.heap.objs.size _ (i.keep O (tk := s.toks) kp) (.of kp) (none_size (Nat.le_refl _)) (O.size _ i.good) ⟨O.size _ i.good, [], Heap.DictOf.new (knd := PySem.strKind B.prog B.w) s.heap, rfl⟩)
theorem small_dn {a : Int} (h0 : -1 <= a) (h1 : a < 2 ^ 60) : Builtin.Range.small a (-1) (-1) = true := by
  have e : Builtin.Range.rangeSize a (-1) (-1) = if a > -1 then a + 1 else 0 := by
    unfold Builtin.Range.rangeSize
    rw [if_neg (by decide)]
    split
    · rw [show (-(-1 : Int)) = 1 by decide, Int.ediv_one]; omega
    · rfl
  unfold Builtin.Range.small
  rw [e]
  simp only [Builtin.Range.rangeFitsLong, Bool.and_eq_true, Bool.or_eq_true, decide_eq_true_eq, beq_iff_eq, show ¬ ((-1 : Int) > 0) by decide, if_false]
  split <;> omega
theorem LoopS.ex {t : Expr} {body : List Stmt} {F : σ -> G} {J : List D -> σ -> Prop} (step : ∀ d ds x, J (d :: ds) x -> ∃ X, Asg B k K (F x) t d X /\ ExI B k K X body F (J ds)) : ∀ ds x, J ds x -> ∃ x', J [] x' /\ LoopS B k K t body (F x) ds (F x')
  | [], x, h => ⟨x, h, .done⟩
  | d :: ds, x, h => by
    obtain ⟨X, a, x₁, j₁, b⟩ := step d ds x h
    obtain ⟨x', j', l⟩ := LoopS.ex step ds x₁ j₁
    exact ⟨x', j', .step a b l⟩
theorem Ex.forZipI (O : B.Ok) {ea eb : Expr} {ts : List Expr} {nt : Nat} {pt p pz pc : Pos} {body ss : List Stmt} {la lb : List D} {o : Out} (F : σ → G) (J : List D → σ → Prop) (x₀ : σ) (bl : BltAt B "zip" (.type "zip")) (hK : K "zip" = some .globalImplicit) (x : EvL B (k + 1) K (F x₀) [ea, eb] [.list la, .list lb]) (j : J (zipD la lb) x₀)
    (step : ∀ d ds x, J (d :: ds) x -> ∃ X, Asg B (k + 1) K (F x) (.Tuple ts nt pt) d X /\ ExI B (k + 1) K X body F (J ds)) (y : ∀ x, J [] x -> Ex B (k + 1) K (F x) ss o Γ')
    (hs : noStars [ea, eb] = true := by rfl) (hf : ∀ env v, foldedSetIterable (.Call (.Name "zip" pz) [ea, eb] [] pc) env v = pure v := by intro _ _; rfl) : Ex B (k + 1) K (F x₀) (.For (.Tuple ts nt pt) (.Call (.Name "zip" pz) [ea, eb] [] pc) body [] p :: ss) o Γ' := by
  obtain ⟨x', j', l⟩ := LoopS.ex step _ x₀ j
  exact Ex.cons (Ex1.forZip O bl hK x l hs hf) (y x' j')
theorem ExE.forZipI (O : B.Ok) {π : Env → Prop} {ea eb : Expr} {ts : List Expr} {nt : Nat} {pt p pz pc : Pos} {body ss : List Stmt} {la lb : List D} {o : Out} (F : σ → G) (J : List D → σ → Prop) (x₀ : σ) (bl : BltAt B "zip" (.type "zip")) (hK : K "zip" = some .globalImplicit) (x : EvLE π B (k + 1) K (F x₀) [ea, eb] [.list la, .list lb]) (j : J (zipD la lb) x₀)
    (step : ∀ d ds x, J (d :: ds) x -> ∃ X, Asg B (k + 1) K (F x) (.Tuple ts nt pt) d X /\ ExI B (k + 1) K X body F (J ds)) (y : ∀ x, J [] x -> Ex B (k + 1) K (F x) ss o Γ')
    (hs : noStars [ea, eb] = true := by rfl) (hf : ∀ env v, foldedSetIterable (.Call (.Name "zip" pz) [ea, eb] [] pc) env v = pure v := by intro _ _; rfl) : ExE π B (k + 1) K (F x₀) (.For (.Tuple ts nt pt) (.Call (.Name "zip" pz) [ea, eb] [] pc) body [] p :: ss) o Γ' := by
  obtain ⟨x', j', l⟩ := LoopS.ex step _ x₀ j
  exact ExE.turn (Ex1E.forZip O bl hK x l hs hf) (y x' j')
theorem WhileS.ex {test : Expr} {body : List Stmt} {F : σ -> G} {M : Nat -> σ -> Prop} (step : ∀ n x, M n x -> (EvT B k K (F x) test false /\ n = 0) \/ ∃ n', n = n' + 1 /\ EvT B k K (F x) test true /\ ExI B k K (F x) body F (M n')) : ∀ n x, M n x -> ∃ x', M 0 x' /\ WhileS B k K test body n (F x) (F x')
  | 0, x, h => by
    rcases step 0 x h with ⟨t, _⟩ | ⟨n', e, _⟩
    · exact ⟨x, h, .stop t⟩
    · cases e
  | n + 1, x, h => by
    rcases step (n + 1) x h with ⟨_, e⟩ | ⟨n', e, t, x₁, m₁, b⟩
    · cases e
    · cases e
      obtain ⟨x', m', w⟩ := WhileS.ex step n x₁ m₁
      exact ⟨x', m', .turn t b w⟩
theorem Ex1.whileI {test : Expr} {body : List Stmt} {p : Pos} (F : σ -> G) (M : Nat -> σ -> Prop) (n₀ : Nat) (x₀ : σ) (m : M n₀ x₀) (step : ∀ n x, M n x -> (EvT B k K (F x) test false /\ n = 0) \/ ∃ n', n = n' + 1 /\ EvT B k K (F x) test true /\ ExI B k K (F x) body F (M n')) :
    ∃ x', M 0 x' /\ Ex1 B k K (F x₀) (.While test body [] p) .next (F x') := by
  obtain ⟨x', m', w⟩ := WhileS.ex step n₀ x₀ m
  exact ⟨x', m', Ex1.while_ w⟩
theorem ExE.consX {π : Env -> Prop} {st : Stmt} {ss : List Stmt} {F : σ -> G} {I : σ -> Prop} {o : Out} (h : ∃ x, I x /\ Ex1 B k K Γ st .next (F x)) (y : ∀ x, I x -> ExE π B k K (F x) ss o Γ') : ExE π B k K Γ (st :: ss) o Γ' := h.elim fun x q => ExE.cons q.2 (y x q.1)
end
theorem Ex1.assignK {B : Base} {k : Nat} {K : Kinds} {Γ Γ' : G} {t value : Expr} {p : Pos} {d : D} (x : Ev B k K Γ value d) (y : Asg B k K Γ t d Γ') (hsw : ∀ env, EnvOk K env -> swapsWithSole [t] value p.line env = pure false) (hn : notStar t = true := by rfl)
    (hst : ∀ env, swappedStores [t] value env = pure none := by intro _; rfl) : Ex1 B k K Γ (.Assign [t] value p) .next Γ' := .mk fun A env V₀ W s Q E rm eo i st h => by
  refine wpAny_Assign_stores (x.run A env _ s _ E rm eo i st.r fun v s₁ i₁ k₁ l₁ => ?_) (hsw env eo) (hst env)
  rw [assignEach_cons hn]
  exact y.run A env V₀ W s₁ v _ E rm eo i₁ (st.kp k₁) l₁ fun s₂ i₂ d₂ e₂ st₂ => h .next s₂ W i₂ (k₁.dom.trans d₂) ((Ext.of_kp k₁).trans e₂ k₁.dom) st₂ rfl
theorem noSwap {K : Kinds} {elt : Expr} {gens : List Comprehension} {sc : Scope} {pos py : Pos} {y : Str} {line : Nat} (hk : K y = some .cell) (env : Env) (eo : EnvOk K env) :
    swapsWithSole [.Name y py] (.ListComp elt gens sc pos) line env = pure false := by
  have h2 : (env.kindOf y == some .local) = false := by rw [eo.kind, hk]; rfl
  show (pure (env.blockKind == .function && env.kindOf y == some .local && py.line == pos.line && !(sc.names.any fun (n, k) => n == y && (k == .local || k == .cell))) : PySem.Sem Bool) = pure false
  rw [h2, Bool.and_false]
  rfl
end Jv
namespace Jv.L1
open PySem PySem.W PySem.Calls PyProof.Rows
noncomputable def dArgs : Stmt -> Arguments
  | .FunctionDef _ a _ _ _ _ _ _ _ _ => a
  | _ => default
noncomputable def dBody : Stmt -> List Stmt
  | .FunctionDef _ _ b _ _ _ _ _ _ _ => b
  | _ => []
noncomputable def dScope : Stmt -> Scope
  | .FunctionDef _ _ _ _ _ _ s _ _ _ => s
  | _ => default
noncomputable def dAt (i : Nat) : Stmt := PySem.Challenge.pw_rt0079_01.main.body.getD i (.Pass default)
noncomputable abbrev fspath_args : Arguments := dArgs (dAt 11)
noncomputable abbrev fspath_body : List Stmt := dBody (dAt 11)
noncomputable abbrev fspath_scope : Scope := dScope (dAt 11)
noncomputable abbrev d_get_sep_args : Arguments := dArgs (dAt 15)
noncomputable abbrev d_get_sep_body : List Stmt := dBody (dAt 15)
noncomputable abbrev d_get_sep_scope : Scope := dScope (dAt 15)
noncomputable abbrev join_args : Arguments := dArgs (dAt 16)
noncomputable abbrev join_body : List Stmt := dBody (dAt 16)
noncomputable abbrev join_scope : Scope := dScope (dAt 16)
noncomputable abbrev basename_args : Arguments := dArgs (dAt 17)
noncomputable abbrev basename_body : List Stmt := dBody (dAt 17)
noncomputable abbrev basename_scope : Scope := dScope (dAt 17)
noncomputable abbrev dirname_args : Arguments := dArgs (dAt 18)
noncomputable abbrev dirname_body : List Stmt := dBody (dAt 18)
noncomputable abbrev dirname_scope : Scope := dScope (dAt 18)
noncomputable abbrev commonpath_args : Arguments := dArgs (dAt 19)
noncomputable abbrev commonpath_body : List Stmt := dBody (dAt 19)
noncomputable abbrev commonpath_scope : Scope := dScope (dAt 19)
noncomputable abbrev sorted_list_difference_args : Arguments := dArgs (dAt 2)
noncomputable abbrev sorted_list_difference_body : List Stmt := dBody (dAt 2)
noncomputable abbrev sorted_list_difference_scope : Scope := dScope (dAt 2)
noncomputable abbrev d_escape_cdata_args : Arguments := dArgs (dAt 22)
noncomputable abbrev d_escape_cdata_body : List Stmt := dBody (dAt 22)
noncomputable abbrev d_escape_cdata_scope : Scope := dScope (dAt 22)
noncomputable abbrev d_escape_attrib_args : Arguments := dArgs (dAt 23)
noncomputable abbrev d_escape_attrib_body : List Stmt := dBody (dAt 23)
noncomputable abbrev d_escape_attrib_scope : Scope := dScope (dAt 23)
noncomputable abbrev d_escape_attrib_html_args : Arguments := dArgs (dAt 24)
noncomputable abbrev d_escape_attrib_html_body : List Stmt := dBody (dAt 24)
noncomputable abbrev d_escape_attrib_html_scope : Scope := dScope (dAt 24)
noncomputable abbrev d_escape_cdata_c14n_args : Arguments := dArgs (dAt 25)
noncomputable abbrev d_escape_cdata_c14n_body : List Stmt := dBody (dAt 25)
noncomputable abbrev d_escape_cdata_c14n_scope : Scope := dScope (dAt 25)
noncomputable abbrev d_escape_attrib_c14n_args : Arguments := dArgs (dAt 26)
noncomputable abbrev d_escape_attrib_c14n_body : List Stmt := dBody (dAt 26)
noncomputable abbrev d_escape_attrib_c14n_scope : Scope := dScope (dAt 26)
noncomputable abbrev d_law_drawn_args : Arguments := dArgs (dAt 28)
noncomputable abbrev d_law_drawn_body : List Stmt := dBody (dAt 28)
noncomputable abbrev d_law_drawn_scope : Scope := dScope (dAt 28)
noncomputable abbrev d_law_told_args : Arguments := dArgs (dAt 29)
noncomputable abbrev d_law_told_body : List Stmt := dBody (dAt 29)
noncomputable abbrev d_law_told_scope : Scope := dScope (dAt 29)
noncomputable abbrev d_law_written_args : Arguments := dArgs (dAt 30)
noncomputable abbrev d_law_written_body : List Stmt := dBody (dAt 30)
noncomputable abbrev d_law_written_scope : Scope := dScope (dAt 30)
noncomputable abbrev d_law_tree_args : Arguments := dArgs (dAt 31)
noncomputable abbrev d_law_tree_body : List Stmt := dBody (dAt 31)
noncomputable abbrev d_law_tree_scope : Scope := dScope (dAt 31)
noncomputable abbrev d_law_map_args : Arguments := dArgs (dAt 32)
noncomputable abbrev d_law_map_body : List Stmt := dBody (dAt 32)
noncomputable abbrev d_law_map_scope : Scope := dScope (dAt 32)
noncomputable abbrev d_law_due_args : Arguments := dArgs (dAt 33)
noncomputable abbrev d_law_due_body : List Stmt := dBody (dAt 33)
noncomputable abbrev d_law_due_scope : Scope := dScope (dAt 33)
noncomputable abbrev law_args : Arguments := dArgs (dAt 34)
noncomputable abbrev law_body : List Stmt := dBody (dAt 34)
noncomputable abbrev law_scope : Scope := dScope (dAt 34)
noncomputable def slash : Str := "/"
noncomputable def joinS (a b : Str) : Str := if (Txt.startswith b slash || !(a.length != 0)) = true then b else if Txt.endswith a slash = true then a ++ b else a ++ (slash ++ b)
noncomputable def bltOf : List (Str × Value) := [("isinstance", .builtin "isinstance"), ("bytes", .type "bytes"), ("str", .type "str"), ("type", .type "type"), ("issubclass", .builtin "issubclass"), ("tuple", .type "tuple"), ("map", .type "map"),
  ("min", .builtin "min"), ("max", .builtin "max"), ("enumerate", .type "enumerate"), ("len", .builtin "len"), ("range", .type "range"), ("divmod", .builtin "divmod"), ("sorted", .builtin "sorted"), ("list", .type "list"), ("zip", .type "zip"), ("IndexError", .type "IndexError")]
structure Tab (B : Base) : Prop where
  O : B.Ok
  sep : FnAt B "_get_sep" d_get_sep_args d_get_sep_body d_get_sep_scope
  fspath : FnAt B "fspath" fspath_args fspath_body fspath_scope
  join : FnAt B "join" join_args join_body join_scope
  basename : FnAt B "basename" basename_args basename_body basename_scope
  dirname : FnAt B "dirname" dirname_args dirname_body dirname_scope
  commonpath : FnAt B "commonpath" commonpath_args commonpath_body commonpath_scope
  blt : ∀ x f, bltOf.lookup x = some f -> BltAt B x f
variable {B : Base} {k : Nat}
theorem c_get_sep (T : Tab B) {x : Str} : Calls B (k + 1) "_get_sep" [.str x] (.str slash) := by
  refine Calls.of (o := .ret (.str slash)) (xs := ["path"]) (Γ' := [("path", .sh (.str x))]) T.O T.sep (.plain (fun _ _ _ => len1 fun _ => rfl)) (by simp) ?_
  (focus (apply Ex.stop; (case' x => apply Ex1.ife; (case x => (apply EvT.val; (apply Ev.b; (apply Ev.blt; exact T.O; exact T.blt _ _ (by rfl); exact rfl; (apply EvLB.cons; (apply EvB.sh; exact rfl; exact rfl; exact rfl); (apply EvLB.cons; (apply Ev.b; (apply Ev.tyName; exact T.O; exact T.blt _ _ (by rfl); exact rfl; exact rfl)); apply EvLB.nil; exact rfl); exact rfl); apply BltR.isBytes; exact rfl; exact rfl; exact rfl)); apply TruR.bool; ((try delta autoParam); intros; rfl))); (case' z => intro hb); (case' y => intro hb)); (case ho => (intro h; cases h; done))))
  · cases hb
  · (focus (apply Ex.stop; (case' x => (apply Ex1.ret; apply Ev.cstr)); (case ho => (intro h; cases h; done))))
theorem c_fspath (T : Tab B) {x : Str} : Calls B (k + 1) "fspath" [.str x] (.str x) := by
  refine Calls.of (o := .ret (.str x)) (xs := ["path"]) (Γ' := [("path", .sh (.str x)), ("kind", .sh (.ty "str"))]) T.O T.fspath (.plain (fun _ _ _ => len1 fun _ => rfl)) (by simp) ?_
  (focus (apply Ex.cons; (case' x => (apply Ex1.assign; (apply Ev.blt; exact T.O; exact T.blt _ _ (by rfl); exact rfl; (apply EvLB.cons; (apply EvB.sh; exact rfl; exact rfl; exact rfl); apply EvLB.nil; exact rfl); apply BltR.typeStr; exact rfl; exact rfl; exact rfl); (apply Asg.name; exact T.O; decide); exact rfl; ((try delta autoParam); intros; rfl); ((try delta autoParam); intros; rfl)))))
  (focus (apply Ex.stop; (case' x => apply Ex1.ife; (case x => (apply EvT.val; (apply Ev.b; (apply Ev.blt; exact T.O; exact T.blt _ _ (by rfl); exact rfl; (apply EvLB.cons; (apply EvB.sh; exact rfl; exact rfl; exact rfl); (apply EvLB.cons; (apply Ev.b; (apply Ev.tup; exact T.O; (apply EvL.cons; (apply Ev.tyName; exact T.O; exact T.blt _ _ (by rfl); exact rfl; exact rfl); (apply EvL.cons; (apply Ev.tyName; exact T.O; exact T.blt _ _ (by rfl); exact rfl; exact rfl); apply EvL.nil; exact rfl); exact rfl); exact Nat.le_of_ble_eq_true rfl)); apply EvLB.nil; exact rfl); exact rfl); apply BltR.issub; exact rfl; exact rfl; exact rfl)); apply TruR.bool; ((try delta autoParam); intros; rfl))); (case' z => intro hb); (case' y => intro hb)); (case ho => (intro h; cases h; done))))
  · (focus (apply Ex.stop; (case' x => (apply Ex1.ret; (apply Ev.name; exact rfl; exact rfl; exact rfl))); (case ho => (intro h; cases h; done))))
  · cases hb
theorem b_star (pm cd doc v vs) : bindArgs (docDef "join" join_args join_body join_scope pm cd doc) ⟨v :: vs, []⟩ = (fun t => [(("a" : Str), v), ("p", t)]) <$> newTuple vs := by
  cases vs <;> rfl
theorem str_len (a b : Str) : (a ++ b).length = a.length + b.length := by
  show (a.cps ++ b.cps).size = _
  simp [Str.length]
theorem c_join (T : Tab B) {a b : Str} (hz : a.length + b.length + 1 ≤ sizeLine) : Calls B (k + 3) "join" [.str a, .str b] (.str (joinS a b)) := by
  have hs : slash.length = 1 := rfl
  refine Calls.of (o := .ret (.str (joinS a b))) (xs := ["a", "p"]) (Γ' := [("a", .sh (.str a)), ("p", .sh (.tup [.str b])), ("sep", .sh (.str slash)), ("path", .sh (.str (joinS a b))), ("b", .sh (.str b))]) T.O T.join (.star (ds := [.str b]) T.O b_star (show 1 ≤ sizeLine by decide)) (by simp) ?_
  (focus (apply Ex.cons; (case' x => (apply Ex1.assign; (focus (apply Ev.call; (case hK => exact rfl); (case y => (apply EvL.cons; (apply Ev.name; exact rfl; exact rfl; exact rfl); apply EvL.nil; exact rfl)); (case O => exact T.O); (case F => exact ⟨_, _, _, T.fspath⟩); (case c => exact c_fspath T); exact rfl; exact rfl)); (apply Asg.name; exact T.O; decide); exact rfl; ((try delta autoParam); intros; rfl); ((try delta autoParam); intros; rfl))))); (focus (apply Ex.cons; (case' x => (apply Ex1.assign; (focus (apply Ev.call; (case hK => exact rfl); (case y => (apply EvL.cons; (apply Ev.name; exact rfl; exact rfl; exact rfl); apply EvL.nil; exact rfl)); (case O => exact T.O); (case F => exact ⟨_, _, _, T.sep⟩); (case c => exact c_get_sep T); exact rfl; exact rfl)); (apply Asg.name; exact T.O; decide); exact rfl; ((try delta autoParam); intros; rfl); ((try delta autoParam); intros; rfl))))); (focus (apply Ex.cons; (case' x => (apply Ex1.assign; (apply Ev.name; exact rfl; exact rfl; exact rfl); (apply Asg.name; exact T.O; decide); exact rfl; ((try delta autoParam); intros; rfl); ((try delta autoParam); intros; rfl)))))
  refine Ex.cons (Γ₁ := [("a", .sh (.str a)), ("p", .sh (.tup [.str b])), ("sep", .sh (.str slash)), ("path", .sh (.str (joinS a b))), ("b", .sh (.str b))]) (Ex1.try_ (Ex.cons (Ex1.for_ (EvI.tuple T.O (ds := [.str b]) (Ev.name (by rfl))) (.step (Asg.name T.O (.inl (by rfl))) ?_ .done)) .nil)) (Ex.stop (Ex1.ret (Ev.name (by rfl))) (by simp))
  (focus (apply Ex.cons; (case' x => (apply Ex1.assign; (focus (apply Ev.call; (case hK => exact rfl); (case y => (apply EvL.cons; (apply Ev.name; exact rfl; exact rfl; exact rfl); apply EvL.nil; exact rfl)); (case O => exact T.O); (case F => exact ⟨_, _, _, T.fspath⟩); (case c => exact c_fspath T); exact rfl; exact rfl)); (apply Asg.name; exact T.O; decide); exact rfl; ((try delta autoParam); intros; rfl); ((try delta autoParam); intros; rfl))))); (focus (apply Ex.cons; (case y => apply Ex.nil); (case' x => apply Ex1.ife; (case x => (apply EvT.bool; (apply EvA.or; (apply EvT.val; (apply Ev.b; (apply Ev.meth; (apply EvB.sh; exact rfl; exact rfl; exact rfl); (apply EvLB.cons; (apply EvB.sh; exact rfl; exact rfl; exact rfl); apply EvLB.nil; exact rfl); apply Meth.startswith; apply OfType.str; apply BltR.startswith; exact rfl; ((try delta autoParam); intros; rfl); exact rfl; exact Nat.le_of_ble_eq_true rfl)); apply TruR.bool; ((try delta autoParam); intros; rfl)); (intros; (apply EvA.or; (apply EvT.not; (apply EvT.val; (apply EvB.sh; exact rfl; exact rfl; exact rfl); (apply TruR.str; omega); ((try delta autoParam); intros; rfl))); (intros; apply EvA.nil)))))); (case' z => intro hb); (case' y => intro hb))))
  · have e : joinS a b = b := if_pos (by simpa using hb)
    rw [e]
    (focus (apply Ex.cons; (case y => apply Ex.nil); (case' x => (apply Ex1.assign; (apply Ev.name; exact rfl; exact rfl; exact rfl); (apply Asg.name; exact T.O; decide); exact rfl; ((try delta autoParam); intros; rfl); ((try delta autoParam); intros; rfl)))))
  · have h' : ¬ (Txt.startswith b slash || !(a.length != 0)) = true := by simpa using hb
    clear hb
    (focus (apply Ex.cons; (case y => apply Ex.nil); (case' x => apply Ex1.ife; (case x => (apply EvT.val; (apply Ev.b; (apply Ev.meth; (apply EvB.sh; exact rfl; exact rfl; exact rfl); (apply EvLB.cons; (apply EvB.sh; exact rfl; exact rfl; exact rfl); apply EvLB.nil; exact rfl); apply Meth.endswith; apply OfType.str; apply BltR.endswith; exact rfl; ((try delta autoParam); intros; rfl); exact rfl; exact Nat.le_of_ble_eq_true rfl)); apply TruR.bool; ((try delta autoParam); intros; rfl))); (case' z => intro hb); (case' y => intro hb))))
    · have e : joinS a b = a ++ b := by unfold joinS; rw [if_neg h', if_pos hb]
      rw [e]
      (focus (apply Ex.cons; (case y => apply Ex.nil); (case' x => (apply Ex1.aug; exact T.O; exact rfl; (apply EvB.sh; exact rfl; exact rfl; exact rfl); (apply InpR.add_str; omega); decide; exact rfl))))
    · have e : joinS a b = a ++ (slash ++ b) := by unfold joinS; rw [if_neg h', if_neg (by simp [hb])]
      rw [e]
      have hr : a.length + (slash ++ b).length <= sizeLine := by rw [str_len]; omega
      (focus (apply Ex.cons; (case y => apply Ex.nil); (case' x => (apply Ex1.aug; exact T.O; exact rfl; (apply Ev.b; (apply Ev.bin; (apply EvB.sh; exact rfl; exact rfl; exact rfl); (apply EvB.sh; exact rfl; exact rfl; exact rfl); (apply BinR.add_str; omega))); (apply InpR.add_str; (with_reducible assumption)); decide; exact rfl))))
noncomputable def headI (p : Str) : Int := Txt.rfind p slash + 1
noncomputable def baseS (p : Str) : Str := cutS p (some (headI p)) none
theorem c_basename (T : Tab B) {p : Str} (hz : p.length ≤ sizeLine) : Calls B (k + 3) "basename" [.str p] (.str (baseS p)) := by
  refine Calls.of (o := .ret (.str (baseS p))) (xs := ["p"]) (Γ' := [("p", .sh (.str p)), ("sep", .sh (.str slash)), ("i", .sh (.int (headI p)))]) T.O T.basename (.plain (fun _ _ _ => len1 fun _ => rfl)) (by simp) ?_
  (focus (apply Ex.cons; (case' x => (apply Ex1.assign; (focus (apply Ev.call; (case hK => exact rfl); (case y => (apply EvL.cons; (apply Ev.name; exact rfl; exact rfl; exact rfl); apply EvL.nil; exact rfl)); (case O => exact T.O); (case F => exact ⟨_, _, _, T.fspath⟩); (case c => exact c_fspath T); exact rfl; exact rfl)); (apply Asg.name; exact T.O; decide); exact rfl; ((try delta autoParam); intros; rfl); ((try delta autoParam); intros; rfl))))); (focus (apply Ex.cons; (case' x => (apply Ex1.assign; (focus (apply Ev.call; (case hK => exact rfl); (case y => (apply EvL.cons; (apply Ev.name; exact rfl; exact rfl; exact rfl); apply EvL.nil; exact rfl)); (case O => exact T.O); (case F => exact ⟨_, _, _, T.sep⟩); (case c => exact c_get_sep T); exact rfl; exact rfl)); (apply Asg.name; exact T.O; decide); exact rfl; ((try delta autoParam); intros; rfl); ((try delta autoParam); intros; rfl))))); (focus (apply Ex.cons; (case' x => (apply Ex1.assign; (apply Ev.bin; (apply Ev.b; (apply Ev.meth; (apply EvB.sh; exact rfl; exact rfl; exact rfl); (apply EvLB.cons; (apply EvB.sh; exact rfl; exact rfl; exact rfl); apply EvLB.nil; exact rfl); apply Meth.rfind; apply OfType.str; apply BltR.rfind; exact rfl; ((try delta autoParam); intros; rfl); exact rfl; exact Nat.le_of_ble_eq_true rfl)); (apply Ev.b; apply Ev.cint); apply BinR.add_int); (apply Asg.name; exact T.O; decide); exact rfl; ((try delta autoParam); intros; rfl); ((try delta autoParam); intros; rfl)))))
  (focus (apply Ex.stop; (case' x => (apply Ex1.ret; (apply Ev.slice; exact T.O; (apply EvB.sh; exact rfl; exact rfl; exact rfl); (apply EvP.some; (apply Ev.name; exact rfl; exact rfl; exact rfl)); apply EvP.none; (with_reducible assumption)))); (case ho => (intro h; cases h; done))))
noncomputable def hd (p : Str) : Str := cutS p none (some (headI p))
noncomputable def dirS (p : Str) : Str := if ((hd p).length != 0 && hd p != Txt.mul slash (hd p).length) = true then Txt.rstripChars (hd p) slash else hd p
theorem mulOk_slash {n : Nat} (hn : n <= sizeLine) : MulOk slash n := by
  have hs : slash.length = 1 := rfl
  have h1 : sizeLine < 2 ^ 62 := by decide
  refine ⟨?_, fun _ _ => ?_, fun _ _ => ?_⟩
  · simp; omega
  · rw [hs]
    have : (1 : Int) <= (2 ^ 63 - 1) / (n : Int) := by
      refine (Int.le_ediv_iff_mul_le (by omega)).mpr (by omega)
    omega
  · rw [hs]; unfold Builtin.Str.tooLong; simp; omega
theorem c_dirname (T : Tab B) {p : Str} (hz : p.length ≤ sizeLine) : Calls B (k + 3) "dirname" [.str p] (.str (dirS p)) := by
  have hc : (cutS p none (some (Txt.rfind p slash + 1))).length <= sizeLine := Nat.le_trans (cutS_le _ _ _) hz
  refine Calls.of (o := .ret (.str (dirS p))) (xs := ["p"]) (Γ' := [("p", .sh (.str p)), ("sep", .sh (.str slash)), ("i", .sh (.int (headI p))), ("head", .sh (.str (dirS p)))]) T.O T.dirname (.plain (fun _ _ _ => len1 fun _ => rfl)) (by simp) ?_
  (focus (apply Ex.cons; (case' x => (apply Ex1.assign; (focus (apply Ev.call; (case hK => exact rfl); (case y => (apply EvL.cons; (apply Ev.name; exact rfl; exact rfl; exact rfl); apply EvL.nil; exact rfl)); (case O => exact T.O); (case F => exact ⟨_, _, _, T.fspath⟩); (case c => exact c_fspath T); exact rfl; exact rfl)); (apply Asg.name; exact T.O; decide); exact rfl; ((try delta autoParam); intros; rfl); ((try delta autoParam); intros; rfl))))); (focus (apply Ex.cons; (case' x => (apply Ex1.assign; (focus (apply Ev.call; (case hK => exact rfl); (case y => (apply EvL.cons; (apply Ev.name; exact rfl; exact rfl; exact rfl); apply EvL.nil; exact rfl)); (case O => exact T.O); (case F => exact ⟨_, _, _, T.sep⟩); (case c => exact c_get_sep T); exact rfl; exact rfl)); (apply Asg.name; exact T.O; decide); exact rfl; ((try delta autoParam); intros; rfl); ((try delta autoParam); intros; rfl))))); (focus (apply Ex.cons; (case' x => (apply Ex1.assign; (apply Ev.bin; (apply Ev.b; (apply Ev.meth; (apply EvB.sh; exact rfl; exact rfl; exact rfl); (apply EvLB.cons; (apply EvB.sh; exact rfl; exact rfl; exact rfl); apply EvLB.nil; exact rfl); apply Meth.rfind; apply OfType.str; apply BltR.rfind; exact rfl; ((try delta autoParam); intros; rfl); exact rfl; exact Nat.le_of_ble_eq_true rfl)); (apply Ev.b; apply Ev.cint); apply BinR.add_int); (apply Asg.name; exact T.O; decide); exact rfl; ((try delta autoParam); intros; rfl); ((try delta autoParam); intros; rfl))))); (focus (apply Ex.cons; (case' x => (apply Ex1.assign; (apply Ev.slice; exact T.O; (apply EvB.sh; exact rfl; exact rfl; exact rfl); apply EvP.none; (apply EvP.some; (apply Ev.name; exact rfl; exact rfl; exact rfl)); (with_reducible assumption)); (apply Asg.name; exact T.O; decide); exact rfl; ((try delta autoParam); intros; rfl); ((try delta autoParam); intros; rfl)))))
  refine Ex.cons (Γ₁ := [("p", .sh (.str p)), ("sep", .sh (.str slash)), ("i", .sh (.int (headI p))), ("head", .sh (.str (dirS p)))]) ?_ (by (focus (apply Ex.stop; (case' x => (apply Ex1.ret; (apply Ev.name; exact rfl; exact rfl; exact rfl))); (case ho => (intro h; cases h; done)))))
  have hm := mulOk_slash hc
  (focus (apply Ex1.ife; (case x => (apply EvT.bool; (apply EvA.and; (apply EvT.val; (apply EvB.sh; exact rfl; exact rfl; exact rfl); (apply TruR.str; (with_reducible assumption)); ((try delta autoParam); intros; rfl)); (intros; (apply EvA.and; (apply EvT.cmp; (apply EvB.sh; exact rfl; exact rfl; exact rfl); (apply Ev.b; (apply Ev.bin; (apply EvB.sh; exact rfl; exact rfl; exact rfl); (apply Ev.b; (apply Ev.blt; exact T.O; exact T.blt _ _ (by rfl); exact rfl; (apply EvLB.cons; (apply EvB.sh; exact rfl; exact rfl; exact rfl); apply EvLB.nil; exact rfl); (apply BltR.lenStr; (with_reducible assumption)); exact rfl; exact rfl; exact rfl)); (apply BinR.mul_str; (with_reducible assumption)))); apply CmpR.ne_str; exact rfl); (intros; apply EvA.nil)))))); (case' z => intro hb); (case' y => intro hb)))
  · have e : dirS p = Txt.rstripChars (hd p) slash := if_pos (by simpa [hd, headI] using hb)
    rw [e]
    (focus (apply Ex.cons; (case y => apply Ex.nil); (case' x => (apply Ex1.assign; (apply Ev.meth; (apply EvB.sh; exact rfl; exact rfl; exact rfl); (apply EvLB.cons; (apply EvB.sh; exact rfl; exact rfl; exact rfl); apply EvLB.nil; exact rfl); apply Meth.rstrip; apply OfType.str; (apply BltR.rstrip; (with_reducible assumption)); exact rfl; ((try delta autoParam); intros; rfl); exact rfl; exact Nat.le_of_ble_eq_true rfl); (apply Asg.name; exact T.O; decide); exact rfl; ((try delta autoParam); intros; rfl); ((try delta autoParam); intros; rfl)))))
  · have e : dirS p = hd p := if_neg (by simpa [hd, headI] using hb)
    rw [e]
    exact Ex.nil
noncomputable def curdir : Str := "."
noncomputable def keepC (c : Str) : Bool := c.length != 0 && (c != curdir && (BoolOp.And == BoolOp.And))
noncomputable def parts (p : Str) : List Str := (Txt.split p slash).filter keepC
noncomputable def commS (l : List Str) : Str := slash ++ Txt.join slash (commonL (l.map parts))
structure CpOk (l : List Str) : Prop where
  ne : l ≠ []
  len : l.length <= 1000
  abs : ∀ p, p ∈ l -> Txt.startswith p slash = true
  sz : ∀ p, p ∈ l -> p.length <= sizeLine
  ps : ∀ p, p ∈ l -> (Builtin.Str.partsBetween p (Builtin.Str.occurrences p slash 0 p.length (p.length + 1)) slash.length).length <= sizeLine
  pl : ∀ p, p ∈ l -> (Txt.split p slash).length <= sizeLine
  cs : ∀ p, p ∈ l -> ∀ c, c ∈ Txt.split p slash -> c.length <= sizeLine
  jo : JoinOk slash (commonL (l.map parts)) = true
  jl : (Txt.join slash (commonL (l.map parts))).length + 1 <= sizeLine
set_option maxHeartbeats 2000000 in
theorem c_commonpath (T : Tab B) {l : List Str} (h : CpOk l) : Calls B (k + 6) "commonpath" [.list (sl l)] (.str (commS l)) := by
  have hl := h.len
  have hs : 1000 <= sizeLine := by decide
  refine Calls.of (o := .ret (.str (commS l))) (xs := ["paths"]) (Γ' := []) T.O T.commonpath (.plain (fun _ _ _ => len1 fun _ => rfl)) (by simp) ?_
  refine Ex.cons (Ex1.assign (Ev.tupMap (k := k) T.O (T.blt _ _ (by rfl)) (by rfl) (T.blt _ _ (by rfl)) (by rfl) (by rfl) (EvB.sh (by rfl)) (fun x _ => c_fspath T) ?_ (by omega)) (Asg.name T.O (.inl (by rfl)))) ?_
  · (refine byEE (T.fspath) fun fa _ hr1 => ?_; refine byEEA (hr1) fun _ _ e _ => ?_; (try clear hr1))
    exact ⟨fa, e⟩
  (refine byEE (List.exists_cons_of_ne_nil h.ne) fun p₀ l' hq2 => ?_; subst hq2)
  have hz : (sl (p₀ :: l')).length <= sizeLine := by simp only [sl, List.length_map]; omega
  refine Ex.cons (Γ₁ := [("paths", .sh (.tup (sl (p₀ :: l'))))]) ?_ ?_
  · (focus (apply Ex1.ife; (case x => (apply EvT.not; (apply EvT.val; (apply EvB.sh; exact rfl; exact rfl; exact rfl); (apply TruR.tup; (with_reducible assumption)); ((try delta autoParam); intros; rfl)))); (case' z => intro hb); (case' y => intro hb)))
    · cases hb
    · exact Ex.nil
  refine Ex.cons (Γ₁ := [("paths", .sh (.tup (sl (p₀ :: l')))), ("sep", .sh (.str slash)), ("curdir", .sh (.str curdir))]) ?_ ?_
  · (focus (apply Ex1.ife; (case x => (apply EvT.val; (apply Ev.b; (apply Ev.blt; exact T.O; exact T.blt _ _ (by rfl); exact rfl; (apply EvLB.cons; (apply Ev.b; (apply Ev.sub; (apply EvB.sh; exact rfl; exact rfl; exact rfl); (apply Ev.b; apply Ev.cint); (apply SubR.tup; decide; decide; exact rfl); exact rfl)); (apply EvLB.cons; (apply Ev.b; (apply Ev.tyName; exact T.O; exact T.blt _ _ (by rfl); exact rfl; exact rfl)); apply EvLB.nil; exact rfl); exact rfl); apply BltR.isBytes; exact rfl; exact rfl; exact rfl)); apply TruR.bool; ((try delta autoParam); intros; rfl))); (case' z => intro hb); (case' y => intro hb)))
    · cases hb
    · (focus (apply Ex.cons; (case' x => (apply Ex1.assign; apply Ev.cstr; (apply Asg.name; exact T.O; decide); exact rfl; ((try delta autoParam); intros; rfl); ((try delta autoParam); intros; rfl))))); (focus (apply Ex.cons; (case y => apply Ex.nil); (case' x => (apply Ex1.assign; apply Ev.cstr; (apply Asg.name; exact T.O; decide); exact rfl; ((try delta autoParam); intros; rfl); ((try delta autoParam); intros; rfl)))))
  refine Ex.stop (Ex1.try_ ?_) (by simp)
  refine Ex.cons (Ex1.assignC (cx := false) (out := (p₀ :: l').map fun p => .list (sl (Txt.split p slash))) T.O (EvIB.tuple T.O (Ev.name (by rfl))) (by exact ScOk.of (by rfl) (by rfl) (by rfl) (by intros; rfl) (by intros; rfl)) (by rfl) (CompR.map D.str _ (p₀ :: l') fun p m => ?_) (by simpa [sl] using hz) (.inl (by rfl)) (by intros; rfl) (fun env eo => swapsC (by rfl) (by rfl) (by rfl) env eo)) ?_
  · have := h.sz p m
    have := h.ps p m
    (apply EvF.ev; (apply EvF.meth; (apply EvB.sh; exact rfl; exact rfl; exact rfl); (apply EvLB.cons; (apply EvB.sh; exact rfl; exact rfl; exact rfl); apply EvLB.nil; exact rfl); apply Meth.split; apply OfType.str; (apply BltF.split; exact T.O; exact rfl; (with_reducible assumption); (with_reducible assumption)); exact rfl; ((try delta autoParam); intros; rfl); exact rfl; exact Nat.le_of_ble_eq_true rfl))
  refine Ex.cons (Ex1.try_ (Ex.cons (Ex1.unpackSet (cx := false) (b := true) (out := (p₀ :: l').map fun p => .bool (Txt.startswith p slash)) T.O (EvIB.tuple T.O (Ev.name (by rfl))) (by exact ScOk.of (by rfl) (by rfl) (by rfl) (by intros; rfl) (by intros; rfl)) (by rfl) (CompR.map D.str _ (p₀ :: l') fun p m => ?_) ?_ (by simp) (.inl (by rfl)) (by intros; rfl)) .nil)) ?_
  · (apply Ev.meth; (apply EvB.sh; exact rfl; exact rfl; exact rfl); (apply EvLB.cons; (apply EvB.sh; exact rfl; exact rfl; exact rfl); apply EvLB.nil; exact rfl); apply Meth.startswith; apply OfType.str; apply BltR.startswith; exact rfl; ((try delta autoParam); intros; rfl); exact rfl; exact Nat.le_of_ble_eq_true rfl)
  · intro d m
    (refine byEA (List.mem_map.mp m) fun p mp hq3 => ?_; subst hq3)
    rw [h.abs p mp]
  refine Ex.cons (Ex1.assignC (cx := false) (out := lsl ((p₀ :: l').map parts)) T.O (EvIB.list T.O (EvB.own (by rfl))) (by exact ScOk.of (by rfl) (by rfl) (by rfl) (by intros; rfl) (by intros; rfl)) (by rfl) ?_ (by simpa [lsl, sl] using hz) (.inl (by rfl)) (by intros; rfl) (fun env eo => swapsC (by rfl) (by rfl) (by rfl) env eo)) ?_
  · have e : lsl ((p₀ :: l').map parts) = (p₀ :: l').map fun p => .list (sl (parts p)) := by simp [lsl]
    rw [e]
    refine CompR.map (fun p => D.list (sl (Txt.split p slash))) _ (p₀ :: l') fun p m => ?_
    refine EvF.ev (EvF.comp (cx := false) T.O (EvIB.list T.O (EvB.sh (by rfl))) (by exact ScOk.of (by rfl) (by rfl) (by rfl) (by intros; rfl) (by intros; rfl)) (by rfl) (CompR.of D.str keepC D.str (Txt.split p slash) (fun c mc => ?_) (fun c mc _ => ?_)) ?_ (by intros; rfl))
    · have := h.cs p m c mc
      (apply EvIfs.one; (apply EvT.bool; (apply EvA.and; (apply EvT.val; (apply EvB.sh; exact rfl; exact rfl; exact rfl); (apply TruR.str; (with_reducible assumption)); ((try delta autoParam); intros; rfl)); (intros; (apply EvA.and; (apply EvT.cmp; (apply EvB.sh; exact rfl; exact rfl; exact rfl); (apply EvB.sh; exact rfl; exact rfl; exact rfl); apply CmpR.ne_str; exact rfl); (intros; apply EvA.nil))))))
    · (apply Ev.name; exact rfl; exact rfl; exact rfl)
    · show ((parts p).map D.str).length <= _
      rw [List.length_map]
      exact Nat.le_trans (List.length_filter_le _ _) (h.pl p m)
  have hne : (p₀ :: l').map parts ≠ [] := by simp
  have hlt := min_le_max hne
  have hcl : commonL ((p₀ :: l').map parts) = lcp (minL ((p₀ :: l').map parts)) (maxL ((p₀ :: l').map parts)) := rfl
  have hj := h.jo
  have hjl := h.jl
  unfold commS
  have hsz : (minL ((p₀ :: l').map parts)).length <= sizeLine := by
    refine byEA (List.mem_map.mp (minL_mem hne)) fun p m e => ?_
    rw [<- e]
    exact Nat.le_trans (List.length_filter_le _ _) (h.pl p m)
  (focus (apply Ex.cons; (case' x => (apply Ex1.assign; (apply Ev.blt; exact T.O; exact T.blt _ _ (by rfl); exact rfl; (apply EvLB.cons; (apply EvB.own; exact rfl; exact rfl; exact rfl); apply EvLB.nil; exact rfl); (apply BltR.minL; exact T.O; (with_reducible assumption)); exact rfl; exact rfl; exact rfl); (apply Asg.name; exact T.O; decide); exact rfl; ((try delta autoParam); intros; rfl); ((try delta autoParam); intros; rfl))))); (focus (apply Ex.cons; (case' x => (apply Ex1.assign; (apply Ev.blt; exact T.O; exact T.blt _ _ (by rfl); exact rfl; (apply EvLB.cons; (apply EvB.own; exact rfl; exact rfl; exact rfl); apply EvLB.nil; exact rfl); (apply BltR.maxL; exact T.O; (with_reducible assumption)); exact rfl; exact rfl; exact rfl); (apply Asg.name; exact T.O; decide); exact rfl; ((try delta autoParam); intros; rfl); ((try delta autoParam); intros; rfl))))); (focus (apply Ex.cons; (case' x => (apply Ex1.assign; (apply Ev.name; exact rfl; exact rfl; exact rfl); (apply Asg.name; exact T.O; decide); exact rfl; ((try delta autoParam); intros; rfl); ((try delta autoParam); intros; rfl)))))
  generalize minL ((p₀ :: l').map parts) = s1 at *
  generalize maxL ((p₀ :: l').map parts) = s2 at *
  generalize commonL ((p₀ :: l').map parts) = cc at *
  subst hcl
  refine Ex.cons (Γ₁ := [("paths", .sh (.tup (sl (p₀ :: l')))), ("sep", .sh (.str slash)), ("curdir", .sh (.str curdir)), ("split_paths", .own none (.list (lsl ((p₀ :: l').map parts)))), ("isabs", .sh (.bool true)), ("s1", .sh (.list (sl s1))), ("s2", .sh (.list (sl s2))), ("common", .sh (.list (sl (lcp s1 s2))))])
    (Ex1.for_ (EvI.enum T.O (T.blt _ _ (by rfl)) (by rfl) (EvL.cons (Ev.name (by rfl)) .nil)) ?_) ?_
  · refine (?_ : ∀ (rest p rest2 : List Str) (hp : s1 = p ++ rest) (hq : s2 = p ++ rest2), Loop B _ _ _ _ _ (numD p.length (sl rest)) .next _) s1 [] s2 rfl rfl
    intro rest
    induction rest with
    | nil =>
      intro p rest2 hp hq
      have e : lcp s1 s2 = s1 := by
        have := lcp_app p [] rest2
        rw [<- hq, <- hp, lcp_nil, List.append_nil] at this
        rw [this, hp, List.append_nil]
      rw [e]
      exact .done
    | cons c rest IH =>
      intro p rest2 hp hq
      cases rest2 with
      | nil =>
        rw [hp, hq, List.append_nil, lt_app] at hlt
        cases hlt
      | cons d rest2 =>
        have hd : (sl s2)[((p.length : Nat) : Int).toNat]? = some (.str d) := by simp [sl, hq]
        have hpl : p.length <= s1.length := by rw [hp]; simp
        have hpz : ((p.length : Nat) : Int) < 2 ^ 63 := by
          have : sizeLine < 2 ^ 62 := by decide
          omega
        have h0 : (0 : Int) <= ((p.length : Nat) : Int) := Int.natCast_nonneg _
        by_cases e : c = d
        · subst e
          apply Loop.step'
          · have := IH (p ++ [c]) rest2 (by rw [hp]; simp) (by rw [hq]; simp)
            rw [List.length_append] at this
            exact this
          · (apply Asg.tup; exact T.O; (apply AsgL.cons; (apply Asg.name; exact T.O; decide); (apply AsgL.cons; (apply Asg.name; exact T.O; decide); apply AsgL.nil; exact rfl); exact rfl); exact rfl; exact rfl)
          · apply Ex.weak
            · (focus (apply Ex.cons; (case y => apply Ex.nil); (case' x => apply Ex1.ife; (case x => (apply EvT.cmp; (apply EvB.sh; exact rfl; exact rfl; exact rfl); (apply Ev.b; (apply Ev.sub; (apply EvB.sh; exact rfl; exact rfl; exact rfl); (apply EvB.sh; exact rfl; exact rfl; exact rfl); (apply SubR.list; (with_reducible assumption); (with_reducible assumption); (with_reducible assumption)); exact rfl)); apply CmpR.ne_str; exact rfl)); (case' z => intro hb); (case' y => intro hb))))
              · exact absurd hb (by simp)
              · exact Ex.nil
            · exact fun y s hy => weakApp (X := [_, _]) hy
        · have e1 : lcp s1 s2 = p := by rw [hp, hq, lcp_app, lcp_ne _ _ e, List.append_nil]
          have e2 : sl (lcp s1 s2) = cut (sl s1) none (some ((p.length : Nat) : Int)) := by
            rw [cut_take _ (by simpa [sl] using hpl), e1, hp]
            simp [sl]
          rw [e2]
          have hzs : (sl s1).length <= sizeLine := by simpa [sl] using hsz
          apply Loop.brk
          · (apply Asg.tup; exact T.O; (apply AsgL.cons; (apply Asg.name; exact T.O; decide); (apply AsgL.cons; (apply Asg.name; exact T.O; decide); apply AsgL.nil; exact rfl); exact rfl); exact rfl; exact rfl)
          · refine Ex.weak (Γ' := [("paths", .sh (.tup (sl (p₀ :: l')))), ("sep", .sh (.str slash)), ("curdir", .sh (.str curdir)), ("split_paths", .own none (.list (lsl ((p₀ :: l').map parts)))), ("isabs", .sh (.bool true)), ("s1", .sh (.list (sl s1))), ("s2", .sh (.list (sl s2))), ("common", .sh (.list (cut (sl s1) none (some ((p.length : Nat) : Int))))), ("i", .sh (.int p.length)), ("c", .sh (.str c))]) ?_ (fun y s hy => weakApp (X := [_, _]) hy)
            (focus (apply Ex.stop; (case' x => apply Ex1.ife; (case x => (apply EvT.cmp; (apply EvB.sh; exact rfl; exact rfl; exact rfl); (apply Ev.b; (apply Ev.sub; (apply EvB.sh; exact rfl; exact rfl; exact rfl); (apply EvB.sh; exact rfl; exact rfl; exact rfl); (apply SubR.list; (with_reducible assumption); (with_reducible assumption); (with_reducible assumption)); exact rfl)); apply CmpR.ne_str; exact rfl)); (case' z => intro hb); (case' y => intro hb)); (case ho => (intro h; cases h; done))))
            · (focus (apply Ex.cons; (case' x => (apply Ex1.assign; (apply EvF.ev; (apply EvF.slice; exact T.O; (apply EvB.sh; exact rfl; exact rfl; exact rfl); apply EvP.none; (apply EvP.some; (apply Ev.name; exact rfl; exact rfl; exact rfl)); (with_reducible assumption))); (apply Asg.name; exact T.O; decide); exact rfl; ((try delta autoParam); intros; rfl); ((try delta autoParam); intros; rfl)))))
              exact Ex.stop Ex1.brk (by simp)
            · simp [e] at hb
  · (focus (apply Ex.cons; (case' x => (apply Ex1.assign; (apply Ev.ite_t; (apply EvT.val; (apply EvB.sh; exact rfl; exact rfl; exact rfl); apply TruR.bool; ((try delta autoParam); intros; rfl)); (apply Ev.name; exact rfl; exact rfl; exact rfl)); (apply Asg.name; exact T.O; decide); exact rfl; ((try delta autoParam); intros; rfl); ((try delta autoParam); intros; rfl)))))
    have hsl : slash.length = 1 := rfl
    apply Ex.weak
    · (focus (apply Ex.stop; (case' x => (apply Ex1.ret; (apply Ev.bin; (apply EvB.sh; exact rfl; exact rfl; exact rfl); (apply Ev.b; (apply Ev.meth; (apply EvB.sh; exact rfl; exact rfl; exact rfl); (apply EvLB.cons; (apply EvB.sh; exact rfl; exact rfl; exact rfl); apply EvLB.nil; exact rfl); apply Meth.join; apply OfType.str; (apply BltR.join; (with_reducible assumption)); exact rfl; ((try delta autoParam); intros; rfl); exact rfl; exact Nat.le_of_ble_eq_true rfl)); (apply BinR.add_str; omega)))); (case ho => (intro h; cases h; done))))
    · intro y s hy
      cases hy
open PySem PySem.W PySem.Calls PyProof.Rows
noncomputable def esc : List (Str × Str) -> Str -> Str
  | [], t => t
  | (c, r) :: l, t => esc l (Txt.replace t c r)
noncomputable def e0 : List (Str × Str) := [("&", "&amp;"), ("<", "&lt;"), (">", "&gt;")]
noncomputable def e1 : List (Str × Str) := [("&", "&amp;"), ("<", "&lt;"), (">", "&gt;"), ("\r", "&#xD;")]
noncomputable def e2 : List (Str × Str) := [("&", "&amp;"), ("<", "&lt;"), (">", "&gt;"), ("\"", "&quot;"), ("\r", "&#13;"), ("\n", "&#10;"), ("\t", "&#09;")]
noncomputable def e3 : List (Str × Str) := [("&", "&amp;"), ("<", "&lt;"), ("\"", "&quot;"), ("\t", "&#x9;"), ("\n", "&#xA;"), ("\r", "&#xD;")]
noncomputable def e4 : List (Str × Str) := [("&", "&amp;"), (">", "&gt;"), ("\"", "&quot;")]
noncomputable def escOk : List (Str × Str) -> Str -> Bool
  | [], t => true
  | (c, r) :: l, t => decide (t.length <= 1048576) && escOk l (Txt.replace t c r)
theorem escOk_cons {c r : Str} {l : List (Str × Str)} {t : Str} (h : escOk ((c, r) :: l) t = true) : t.length <= 1048576 /\ escOk l (Txt.replace t c r) = true := by
  simpa [escOk] using h
noncomputable def fns : List (Str × (Arguments × List Stmt × Scope)) := [("_escape_cdata", (d_escape_cdata_args, d_escape_cdata_body, d_escape_cdata_scope)), ("_escape_cdata_c14n", (d_escape_cdata_c14n_args, d_escape_cdata_c14n_body, d_escape_cdata_c14n_scope)),
  ("_escape_attrib", (d_escape_attrib_args, d_escape_attrib_body, d_escape_attrib_scope)), ("_escape_attrib_c14n", (d_escape_attrib_c14n_args, d_escape_attrib_c14n_body, d_escape_attrib_c14n_scope)), ("_escape_attrib_html", (d_escape_attrib_html_args, d_escape_attrib_html_body, d_escape_attrib_html_scope))]
structure Tab2 (B : Base) : Prop extends Tab B where
  fn : ∀ f p b s, fns.lookup f = some (p, b, s) -> FnAt B f p b s
variable {B : Base} {k : Nat}
theorem c_e0 (T : Tab2 B) {t : Str} (h : escOk e0 t = true) : Calls B (k + 1) "_escape_cdata" [.str t] (.str (esc e0 t)) := by
  refine Calls.of (o := .ret (.str (esc e0 t))) (xs := ["text"]) (Γ' := [("text", .sh (.str (esc e0 t)))]) T.toTab.O (T.fn "_escape_cdata" _ _ _ (by rfl)) (.plain (fun _ _ _ => len1 fun _ => rfl)) (by simp) ?_
  refine Ex.stop (Ex1.try_ ?_) (by simp)
  repeat' (refine Ex.cons (Ex1.escape T.toTab.O (by rfl) (.inl (by rfl)) (ht := (escOk_cons h).1)) ?_; replace h := (escOk_cons h).2)
  exact Ex.stop (Ex1.ret (Ev.name (by rfl))) (by simp)
theorem c_e1 (T : Tab2 B) {t : Str} (h : escOk e1 t = true) : Calls B (k + 1) "_escape_cdata_c14n" [.str t] (.str (esc e1 t)) := by
  refine Calls.of (o := .ret (.str (esc e1 t))) (xs := ["text"]) (Γ' := [("text", .sh (.str (esc e1 t)))]) T.toTab.O (T.fn "_escape_cdata_c14n" _ _ _ (by rfl)) (.plain (fun _ _ _ => len1 fun _ => rfl)) (by simp) ?_
  refine Ex.stop (Ex1.try_ ?_) (by simp)
  repeat' (refine Ex.cons (Ex1.escape T.toTab.O (by rfl) (.inl (by rfl)) (ht := (escOk_cons h).1)) ?_; replace h := (escOk_cons h).2)
  exact Ex.stop (Ex1.ret (Ev.name (by rfl))) (by simp)
theorem c_e2 (T : Tab2 B) {t : Str} (h : escOk e2 t = true) : Calls B (k + 1) "_escape_attrib" [.str t] (.str (esc e2 t)) := by
  refine Calls.of (o := .ret (.str (esc e2 t))) (xs := ["text"]) (Γ' := [("text", .sh (.str (esc e2 t)))]) T.toTab.O (T.fn "_escape_attrib" _ _ _ (by rfl)) (.plain (fun _ _ _ => len1 fun _ => rfl)) (by simp) ?_
  refine Ex.stop (Ex1.try_ ?_) (by simp)
  repeat' (refine Ex.cons (Ex1.escape T.toTab.O (by rfl) (.inl (by rfl)) (ht := (escOk_cons h).1)) ?_; replace h := (escOk_cons h).2)
  exact Ex.stop (Ex1.ret (Ev.name (by rfl))) (by simp)
theorem c_e3 (T : Tab2 B) {t : Str} (h : escOk e3 t = true) : Calls B (k + 1) "_escape_attrib_c14n" [.str t] (.str (esc e3 t)) := by
  refine Calls.of (o := .ret (.str (esc e3 t))) (xs := ["text"]) (Γ' := [("text", .sh (.str (esc e3 t)))]) T.toTab.O (T.fn "_escape_attrib_c14n" _ _ _ (by rfl)) (.plain (fun _ _ _ => len1 fun _ => rfl)) (by simp) ?_
  refine Ex.stop (Ex1.try_ ?_) (by simp)
  repeat' (refine Ex.cons (Ex1.escape T.toTab.O (by rfl) (.inl (by rfl)) (ht := (escOk_cons h).1)) ?_; replace h := (escOk_cons h).2)
  exact Ex.stop (Ex1.ret (Ev.name (by rfl))) (by simp)
theorem c_e4 (T : Tab2 B) {t : Str} (h : escOk e4 t = true) : Calls B (k + 1) "_escape_attrib_html" [.str t] (.str (esc e4 t)) := by
  refine Calls.of (o := .ret (.str (esc e4 t))) (xs := ["text"]) (Γ' := [("text", .sh (.str (esc e4 t)))]) T.toTab.O (T.fn "_escape_attrib_html" _ _ _ (by rfl)) (.plain (fun _ _ _ => len1 fun _ => rfl)) (by simp) ?_
  refine Ex.stop (Ex1.try_ ?_) (by simp)
  repeat' (refine Ex.cons (Ex1.escape T.toTab.O (by rfl) (.inl (by rfl)) (ht := (escOk_cons h).1)) ?_; replace h := (escOk_cons h).2)
  exact Ex.stop (Ex1.ret (Ev.name (by rfl))) (by simp)
noncomputable def forms (k : Nat) : List (Str × Str) := match k with | 0 => e0 | 1 => e1 | 2 => e2 | 3 => e3 | _ => e4
structure Tab3 (B : Base) : Prop extends Tab2 B where
  written : FnAt B "_law_written" d_law_written_args d_law_written_body d_law_written_scope
theorem c_written (T' : Tab3 B) {t : Str} {n : Nat} (hn : n < 5) (h : escOk (forms n) t = true) : Calls B (k + 2) "_law_written" [.str t, .int n] (.str (esc (forms n) t)) := by
  have T := T'.toTab2
  refine Calls.of (o := .ret (.str (esc (forms n) t))) (xs := ["name", "kind"]) (Γ' := [("name", .sh (.str t)), ("kind", .sh (.int n))]) T.toTab.O T'.written (.plain (fun _ _ _ => len2 fun _ _ => rfl)) (by simp) ?_
  by_cases h0 : n = 0
  · subst h0
    have h : escOk e0 t = true := h
    (focus (apply Ex.stop; (case' x => apply Ex1.ife; (case x => (apply EvT.cmp; (apply EvB.sh; exact rfl; exact rfl; exact rfl); (apply Ev.b; apply Ev.cint); apply CmpR.eq_int; exact rfl)); (case' z => intro hb); (case' y => intro hb)); (case ho => (intro h; cases h; done))))
    · (focus (apply Ex.stop; (case' x => (apply Ex1.ret; (focus (apply Ev.call; (case hK => exact rfl); (case y => (apply EvL.cons; (apply Ev.name; exact rfl; exact rfl; exact rfl); apply EvL.nil; exact rfl)); (case O => exact T.O); (case F => exact ⟨_, _, _, T.fn _ _ _ _ (by rfl)⟩); (case c => exact c_e0 T (by with_reducible assumption)); exact rfl; exact rfl)))); (case ho => (intro h; cases h; done))))
    · cases hb
  (focus (apply Ex.cons; (case' x => apply Ex1.ife; (case x => (apply EvT.cmp; (apply EvB.sh; exact rfl; exact rfl; exact rfl); (apply Ev.b; apply Ev.cint); apply CmpR.eq_int; exact rfl)); (case' z => intro hb); (case' y => intro hb))))
  · exact absurd hb (by simp; omega)
  · exact Ex.nil
  by_cases h1 : n = 1
  · subst h1
    have h : escOk e1 t = true := h
    (focus (apply Ex.stop; (case' x => apply Ex1.ife; (case x => (apply EvT.cmp; (apply EvB.sh; exact rfl; exact rfl; exact rfl); (apply Ev.b; apply Ev.cint); apply CmpR.eq_int; exact rfl)); (case' z => intro hb); (case' y => intro hb)); (case ho => (intro h; cases h; done))))
    · (focus (apply Ex.stop; (case' x => (apply Ex1.ret; (focus (apply Ev.call; (case hK => exact rfl); (case y => (apply EvL.cons; (apply Ev.name; exact rfl; exact rfl; exact rfl); apply EvL.nil; exact rfl)); (case O => exact T.O); (case F => exact ⟨_, _, _, T.fn _ _ _ _ (by rfl)⟩); (case c => exact c_e1 T (by with_reducible assumption)); exact rfl; exact rfl)))); (case ho => (intro h; cases h; done))))
    · cases hb
  (focus (apply Ex.cons; (case' x => apply Ex1.ife; (case x => (apply EvT.cmp; (apply EvB.sh; exact rfl; exact rfl; exact rfl); (apply Ev.b; apply Ev.cint); apply CmpR.eq_int; exact rfl)); (case' z => intro hb); (case' y => intro hb))))
  · exact absurd hb (by simp; omega)
  · exact Ex.nil
  by_cases h2 : n = 2
  · subst h2
    have h : escOk e2 t = true := h
    (focus (apply Ex.stop; (case' x => apply Ex1.ife; (case x => (apply EvT.cmp; (apply EvB.sh; exact rfl; exact rfl; exact rfl); (apply Ev.b; apply Ev.cint); apply CmpR.eq_int; exact rfl)); (case' z => intro hb); (case' y => intro hb)); (case ho => (intro h; cases h; done))))
    · (focus (apply Ex.stop; (case' x => (apply Ex1.ret; (focus (apply Ev.call; (case hK => exact rfl); (case y => (apply EvL.cons; (apply Ev.name; exact rfl; exact rfl; exact rfl); apply EvL.nil; exact rfl)); (case O => exact T.O); (case F => exact ⟨_, _, _, T.fn _ _ _ _ (by rfl)⟩); (case c => exact c_e2 T (by with_reducible assumption)); exact rfl; exact rfl)))); (case ho => (intro h; cases h; done))))
    · cases hb
  (focus (apply Ex.cons; (case' x => apply Ex1.ife; (case x => (apply EvT.cmp; (apply EvB.sh; exact rfl; exact rfl; exact rfl); (apply Ev.b; apply Ev.cint); apply CmpR.eq_int; exact rfl)); (case' z => intro hb); (case' y => intro hb))))
  · exact absurd hb (by simp; omega)
  · exact Ex.nil
  by_cases h3 : n = 3
  · subst h3
    have h : escOk e3 t = true := h
    (focus (apply Ex.stop; (case' x => apply Ex1.ife; (case x => (apply EvT.cmp; (apply EvB.sh; exact rfl; exact rfl; exact rfl); (apply Ev.b; apply Ev.cint); apply CmpR.eq_int; exact rfl)); (case' z => intro hb); (case' y => intro hb)); (case ho => (intro h; cases h; done))))
    · (focus (apply Ex.stop; (case' x => (apply Ex1.ret; (focus (apply Ev.call; (case hK => exact rfl); (case y => (apply EvL.cons; (apply Ev.name; exact rfl; exact rfl; exact rfl); apply EvL.nil; exact rfl)); (case O => exact T.O); (case F => exact ⟨_, _, _, T.fn _ _ _ _ (by rfl)⟩); (case c => exact c_e3 T (by with_reducible assumption)); exact rfl; exact rfl)))); (case ho => (intro h; cases h; done))))
    · cases hb
  (focus (apply Ex.cons; (case' x => apply Ex1.ife; (case x => (apply EvT.cmp; (apply EvB.sh; exact rfl; exact rfl; exact rfl); (apply Ev.b; apply Ev.cint); apply CmpR.eq_int; exact rfl)); (case' z => intro hb); (case' y => intro hb))))
  · exact absurd hb (by simp; omega)
  · exact Ex.nil
  obtain rfl : n = 4 := by omega
  have h : escOk e4 t = true := h
  (focus (apply Ex.stop; (case' x => (apply Ex1.ret; (focus (apply Ev.call; (case hK => exact rfl); (case y => (apply EvL.cons; (apply Ev.name; exact rfl; exact rfl; exact rfl); apply EvL.nil; exact rfl)); (case O => exact T.O); (case F => exact ⟨_, _, _, T.fn _ _ _ _ (by rfl)⟩); (case c => exact c_e4 T (by with_reducible assumption)); exact rfl; exact rfl)))); (case ho => (intro h; cases h; done))))
open PySem PySem.W PySem.Calls PyProof.Rows
noncomputable def tS (n : Nat) : List (Str × Str) := match n with
  | 0 => [("&", "&amp;"), ("<", "&lt;"), (">", "&gt;")]
  | 1 => [("&", "&amp;"), ("<", "&lt;"), (">", "&gt;"), ("\r", "&#xD;")]
  | 2 => [("&", "&amp;"), ("<", "&lt;"), (">", "&gt;"), ("\"", "&quot;"), ("\r", "&#13;"), ("\n", "&#10;"), ("\t", "&#09;")]
  | 3 => [("&", "&amp;"), ("<", "&lt;"), ("\"", "&quot;"), ("\r", "&#xD;"), ("\n", "&#xA;"), ("\t", "&#x9;")]
  | _ => [("&", "&amp;"), (">", "&gt;"), ("\"", "&quot;")]
noncomputable def sget (l : List (Str × Str)) (x : Str) : Option Str := (l.find? fun p => p.1 = x).map (·.2)
theorem dget_vals (l : List (Str × Str)) (x : Str) : dget (vals l) x = (sget l x).map .str := by
  unfold dget sget vals
  rw [List.find?_map]
  simp only [Function.comp_def, Option.map_map]
noncomputable def toldRow (n : Nat) (t : Str) : List Str := (signs t).map fun c => (sget (tS n) c).getD c
noncomputable def toldS (n : Nat) (t : Str) : Str := Txt.join "" (toldRow n t)
structure Tab4 (B : Base) : Prop extends Tab3 B where
  told : FnAt B "_law_told" d_law_told_args d_law_told_body d_law_told_scope
variable {B : Base} {k : Nat}
theorem c_told (T' : Tab4 B) {t : Str} {n : Nat} (hn : n < 5) (ha : t.cps.all (· < 128) = true) (hj : JoinOk "" (toldRow n t) = true) (hl : (toldRow n t).length ≤ sizeLine) : Calls B (k + 2) "_law_told" [.str t, .int n] (.str (toldS n t)) := by
  have T := T'.toTab2
  refine Calls.of (o := .ret (.str (toldS n t))) (xs := ["name", "kind"]) (Γ' := []) T.toTab.O T'.told (.plain (fun _ _ _ => len2 fun _ _ => rfl)) (by simp) ?_
  (focus (apply Ex.cons; (case' x => (apply Ex1.assign; (apply EvF.ev; (apply EvF.list; exact T.O; (apply EvL.cons; (apply EvF.ev; (apply EvF.dict; exact T.O; (apply EvD.cons; apply Ev.cstr; apply Ev.cstr; (apply EvD.cons; apply Ev.cstr; apply Ev.cstr; (apply EvD.cons; apply Ev.cstr; apply Ev.cstr; apply EvD.nil))); decide; exact Nat.le_of_ble_eq_true rfl; decide)); (apply EvL.cons; (apply EvF.ev; (apply EvF.dict; exact T.O; (apply EvD.cons; apply Ev.cstr; apply Ev.cstr; (apply EvD.cons; apply Ev.cstr; apply Ev.cstr; (apply EvD.cons; apply Ev.cstr; apply Ev.cstr; (apply EvD.cons; apply Ev.cstr; apply Ev.cstr; apply EvD.nil)))); decide; exact Nat.le_of_ble_eq_true rfl; decide)); (apply EvL.cons; (apply EvF.ev; (apply EvF.dict; exact T.O; (apply EvD.cons; apply Ev.cstr; apply Ev.cstr; (apply EvD.cons; apply Ev.cstr; apply Ev.cstr; (apply EvD.cons; apply Ev.cstr; apply Ev.cstr; (apply EvD.cons; apply Ev.cstr; apply Ev.cstr; (apply EvD.cons; apply Ev.cstr; apply Ev.cstr; (apply EvD.cons; apply Ev.cstr; apply Ev.cstr; (apply EvD.cons; apply Ev.cstr; apply Ev.cstr; apply EvD.nil))))))); decide; exact Nat.le_of_ble_eq_true rfl; decide)); (apply EvL.cons; (apply EvF.ev; (apply EvF.dict; exact T.O; (apply EvD.cons; apply Ev.cstr; apply Ev.cstr; (apply EvD.cons; apply Ev.cstr; apply Ev.cstr; (apply EvD.cons; apply Ev.cstr; apply Ev.cstr; (apply EvD.cons; apply Ev.cstr; apply Ev.cstr; (apply EvD.cons; apply Ev.cstr; apply Ev.cstr; (apply EvD.cons; apply Ev.cstr; apply Ev.cstr; apply EvD.nil)))))); decide; exact Nat.le_of_ble_eq_true rfl; decide)); (apply EvL.cons; (apply EvF.ev; (apply EvF.dict; exact T.O; (apply EvD.cons; apply Ev.cstr; apply Ev.cstr; (apply EvD.cons; apply Ev.cstr; apply Ev.cstr; (apply EvD.cons; apply Ev.cstr; apply Ev.cstr; apply EvD.nil))); decide; exact Nat.le_of_ble_eq_true rfl; decide)); apply EvL.nil; exact rfl); exact rfl); exact rfl); exact rfl); exact rfl); exact Nat.le_of_ble_eq_true rfl)); (apply Asg.name; exact T.O; decide); exact rfl; ((try delta autoParam); intros; rfl); ((try delta autoParam); intros; rfl)))))
  refine Ex.weak (Γ' := [("name", .sh (.str t)), ("kind", .sh (.int n)), ("forms", .sh (.list [.dict (vals (tS 0)), .dict (vals (tS 1)), .dict (vals (tS 2)), .dict (vals (tS 3)), .dict (vals (tS 4))]))]) ?_ (fun y s hy => by cases hy)
  refine Ex.stop (Ex1.ret (Ev.meth (Ev.cstr.b) (EvLB.cons (EvF.ev (EvF.comp (cx := false) (out := sl (toldRow n t)) T.toTab.O (EvI.b (EvI.str T.toTab.O (Ev.name (by rfl)) ha)) (by exact ScOk.of (by rfl) (by rfl) (by rfl) (by intros; rfl) (by intros; rfl)) (by rfl) ?_ ?_ (by intros; rfl))).b .nil) Meth.join OfType.str (BltR.join hj))) (by simp)
  · have e : sl (toldRow n t) = (signs t).map fun c => D.str ((sget (tS n) c).getD c) := by simp [sl, toldRow]
    rw [e]
    refine CompR.map D.str _ (signs t) fun c m => ?_
    have hd : ([D.dict (vals (tS 0)), .dict (vals (tS 1)), .dict (vals (tS 2)), .dict (vals (tS 3)), .dict (vals (tS 4))] : List D)[((n : Nat) : Int).toNat]? = some (.dict (vals (tS n))) := by
      match n, hn with
      | 0, _ => rfl
      | 1, _ => rfl
      | 2, _ => rfl
      | 3, _ => rfl
      | 4, _ => rfl
    have e2 : D.str ((sget (tS n) c).getD c) = (dget (vals (tS n)) c).getD (.str c) := by
      rw [dget_vals]
      cases sget (tS n) c <;> rfl
    rw [e2]
    refine Ev.meth (d₀ := .dict (vals (tS n))) (Ev.b (Ev.sub (EvB.sh (by rfl)) (EvB.sh (by rfl)) (SubR.list (by omega) (by omega) hd))) (by (apply EvLB.cons; (apply EvB.sh; exact rfl; exact rfl; exact rfl); (apply EvLB.cons; (apply EvB.sh; exact rfl; exact rfl; exact rfl); apply EvLB.nil; exact rfl); exact rfl)) Meth.dget OfType.dict' (BltR.dget T.toTab.O)
  · simpa [sl] using hl
noncomputable def getI (a : List Int) (i : Int) : Int := a.getD i.toNat 0
noncomputable def getS (a : List Str) (i : Int) : Str := a.getD i.toNat ""
theorem il_get {a : List Int} {i : Int} (h : i.toNat < a.length) : (il a)[i.toNat]? = some (.int (getI a i)) := by
  simp [il, getI, h]
theorem sl_get {a : List Str} {i : Int} (h : i.toNat < a.length) : (sl a)[i.toNat]? = some (.str (getS a i)) := by
  simp [sl, getS, h]
theorem il_set (a : List Int) (n : Nat) (v : Int) : il (a.set n v) = (il a).set n (.int v) := by simp [il, List.map_set]
theorem il_app (a b : List Int) : il (a ++ b) = il a ++ il b := by simp [il]
theorem sl_app (a b : List Str) : sl (a ++ b) = sl a ++ sl b := by simp [sl]
theorem il_len (a : List Int) : (il a).length = a.length := by simp [il]
theorem sl_len (a : List Str) : (sl a).length = a.length := by simp [sl]
open PySem PySem.W PySem.Calls PyProof.Rows
structure Tab5 (B : Base) : Prop extends Tab4 B where
  sld : FnAt B "sorted_list_difference" sorted_list_difference_args sorted_list_difference_body sorted_list_difference_scope
variable {B : Base} {k : Nat}
noncomputable def lostS (X Y : List Str) : List Str := X.filter fun x => !Y.contains x
noncomputable def Rising (l : List Str) : Prop := l.Pairwise fun a b => ltS a b = true
noncomputable def Weakly (l : List Str) : Prop := l.Pairwise fun a b => ltS b a = false
theorem ne_of_lt {x y : Str} (h : ltS x y = true) : (y == x) = false := by
  rw [beq_eq_false_iff_ne]
  rintro rfl
  rw [ltS_irrefl] at h; cases h
theorem Rising.hd {x y : Str} {l : List Str} (h : Rising (x :: l)) (hy : y ∈ l) : (y == x) = false := ne_of_lt ((List.pairwise_cons.mp h).1 y hy)
theorem Rising.of_app {a b : List Str} (h : Rising (a ++ b)) : Rising b := (List.pairwise_append.mp h).2.1
noncomputable def sldG (X Y : List Str) (i j : Int) (M : List Str) : G := [("expected", .sh (.list (sl X))), ("actual", .sh (.list (sl Y))), ("i", .sh (.int i)), ("j", .sh (.int j)), ("missing", .own none (.list (sl M))), ("unexpected", .own none (.list []))]
noncomputable def sldH (X Y : List Str) (i j : Int) (M : List Str) (x a : Str) : G := sldG X Y i j M ++ ([("e", .sh (.str x)), ("a", .sh (.str a))] : G)
noncomputable def sldZ (M : List Str) : G := [("missing", .own none (.list (sl M))), ("unexpected", .own none (.list []))]
theorem cut_from (l : List Str) (i : Nat) : cut (sl l) (some (i : Int)) none = sl (l.drop i) := by
  rw [cut_drop, sl, sl, List.map_drop]
theorem cut_len (l : List D) (a b : Option Int) : (cut l a b).length <= l.length := by
  unfold cut
  rw [List.length_drop]
  exact Nat.le_trans (Nat.sub_le _ _) (List.length_take_le' _ _)
theorem cutsz {A : List D} {X : List Str} {a b : Option Int} (hA : A.length <= 101) (hX : X.length <= 100) : A.length + (cut (sl X) a b).length <= sizeLine :=
  Nat.le_trans (Nat.add_le_add hA (Nat.le_trans (cut_len _ _ _) (sl_len X ▸ hX))) (by decide)
theorem sl101 {M : List Str} (h : M.length <= 100) : (sl M).length <= 101 := by rw [sl_len]; exact Nat.le_succ_of_le h
theorem slSz {M : List Str} (h : M.length <= 100) : (sl M).length <= sizeLine := Nat.le_trans (sl101 h) (by decide)
theorem nat63 {n m : Nat} (h : n + m <= 100) : (n : Int) < 2 ^ 63 := by omega
theorem nat63' {n m : Nat} (h : n + m <= 100) : (n : Int) + 1 < 2 ^ 63 := by omega
theorem nn1 (n : Nat) : (0 : Int) <= (n : Int) + 1 := by omega
theorem app100 {M : List Str} {x : Str} {p r : Nat} (l : M.length <= p) (h : p + (r + 1) <= 100) : (M ++ [x]).length <= 100 := by rw [List.length_append]; show _ + 1 <= 100; omega
theorem appLe {M N : List Str} {x y : Str} (h : M.length <= N.length) : (M ++ [x]).length <= (N ++ [y]).length := by rw [List.length_append, List.length_append]; exact Nat.succ_le_succ h
theorem appLe' {M N : List Str} {y : Str} (h : M.length <= N.length) : M.length <= (N ++ [y]).length := by rw [List.length_append]; exact Nat.le_succ_of_le h
theorem le100 {n : Nat} (h : n <= 60) : n <= 100 := Nat.le_trans h (by decide)
theorem lt64 {n : Nat} (h : n <= 60) : n < 64 := Nat.lt_of_le_of_lt h (by decide)
theorem szz {n : Nat} (h : n <= 60) : n <= sizeLine := Nat.le_trans h (by decide)
theorem sl60 {M : List Str} (h : M.length <= 60) : (sl M).length <= sizeLine := by rw [sl_len]; exact szz h
theorem il60 {M : List Int} (h : M.length <= 60) : (il M).length <= sizeLine := by rw [il_len]; exact szz h
theorem n63 {n : Nat} (h : n < 60) : (n : Int) < 2 ^ 63 := Int.lt_of_lt_of_le (Int.ofNat_lt.mpr h) (by decide)
theorem z63 {z : Int} (h : z < 6) : z < 2 ^ 63 := Int.lt_of_lt_of_le h (by decide)
theorem toN63 {z : Int} {n : Nat} (h0 : 0 <= z) (h : z.toNat < n) (hn : n <= 60) : z < 2 ^ 63 := Int.lt_of_lt_of_le ((Int.toNat_lt h0).mp h) (Int.le_trans (Int.ofNat_le.mpr hn) (by decide))
theorem joinZ {a b : Nat} (ha : a <= 1000) (hb : b <= 100) : a + b + 1 <= sizeLine := Nat.le_trans (Nat.add_le_add (Nat.add_le_add ha hb) (Nat.le_refl 1)) (by decide)
theorem wz {m d n : Nat} (h : m + (d + 1) <= n) (hn : n <= 60) : m + 1 <= sizeLine := Nat.le_trans (Nat.le_trans (Nat.add_le_add_left (Nat.le_add_left 1 d) m) h) (szz hn)
theorem sh1 {m d n : Nat} (h : m + (d + 1) <= n) : m + 1 + d <= n := by omega
theorem sh2 {m d n : Nat} (h : m + (d + 1) = n) : m + 1 + d = n := by omega
theorem mm2 (m : Nat) : ((m + 1 : Nat) : Int) - 2 = (m : Int) - 1 := by omega
theorem tnS (j : Nat) : ((j : Int) + 1).toNat = j + 1 := rfl
theorem dn1 {a : Int} {j : Nat} (h : a + 1 = ((j + 1 : Nat) : Int)) : a = (j : Int) := by omega
theorem up63 {n b : Nat} (h : n + 1 <= b) (hb : b <= 60) : (n : Int) + 1 < 2 ^ 63 := Int.lt_of_le_of_lt (Int.ofNat_le.mpr (Nat.le_trans h hb)) (by decide)
theorem pm1 (j : Int) : j + -1 + 1 = j := Int.neg_add_cancel_right j 1
theorem mid_lt {l a b : List Str} {x : Str} (e : l = a ++ x :: b) : a.length < l.length := by rw [e]; simp
theorem mid_get {l a b : List Str} {x : Str} (e : l = a ++ x :: b) : l.getD a.length "" = x := by rw [e]; simp
theorem mid_mem {l a b : List Str} {x : Str} (e : l = a ++ x :: b) : x ∈ l := by rw [e]; simp
theorem mid_new {l a b : List Str} {x : Str} (nd : l.Nodup) (e : l = a ++ x :: b) : x ∉ a := fun m => by
  rw [e, List.nodup_append] at nd
  exact nd.2.2 x m x (.head _) rfl
theorem mid_app {l a b : List Str} {x : Str} (e : l = a ++ x :: b) : l = (a ++ [x]) ++ b := by rw [e]; simp
theorem mid_end {l a : List Str} (e : l = a ++ []) : a = l := by rw [e, List.append_nil]
theorem sl_cons {d : D} {ds : List D} {r : List Str} (e : d :: ds = sl r) {c : Prop} (k : ∀ x r', r = x :: r' -> d = .str x -> ds = sl r' -> c) : c := by
  cases r with
  | nil => cases e
  | cons x r' => exact k x r' rfl (List.cons.inj e).1 (List.cons.inj e).2
theorem sl_nil {r : List Str} (e : [] = sl r) : r = [] := by
  cases r with
  | nil => rfl
  | cons x r' => cases e
theorem lost_nil (X : List Str) : lostS X [] = X := by unfold lostS; simp
theorem weak_split {x : Str} : ∀ {Y : List Str}, Weakly (x :: Y) -> ∃ ds Yq, Y = ds ++ Yq /\ (∀ d ∈ ds, d = x) /\ (∀ y ∈ Yq, (y == x) = false) /\ Weakly Yq
  | [], _ => ⟨[], [], rfl, (fun d m => nomatch m), (fun d m => nomatch m), List.Pairwise.nil⟩
  | y :: Y, h => by
    have h1 := List.pairwise_cons.mp h
    by_cases e : y = x
    · subst e
      obtain ⟨ds, Yq, e1, e2, e3, e4⟩ := weak_split h1.2
      exact ⟨y :: ds, Yq, by rw [e1]; rfl, fun d m => (List.mem_cons.mp m).elim id (e2 d), e3, e4⟩
    · refine ⟨[], y :: Y, rfl, (fun d m => nomatch m), fun z m => ?_, h1.2⟩
      have hxy : ltS x y = true := by
        rcases ltS_tri (fun q => e q.symm : x ≠ y) with q | q
        · exact q
        · rw [h1.1 y (.head _)] at q; cases q
      refine ne_of_lt ?_
      rcases List.mem_cons.mp m with rfl | m
      · exact hxy
      · have hz := (List.pairwise_cons.mp h1.2).1 z m
        by_cases e' : z = y
        · rw [e']; exact hxy
        · rcases ltS_tri e' with q | q
          · rw [hz] at q; cases q
          · exact ltS_trans hxy q
theorem weak_lt {x y : Str} {Y : List Str} (h : Weakly (y :: Y)) (hxy : ltS x y = true) : ∀ z ∈ y :: Y, (z == x) = false := fun z m => by
  refine ne_of_lt ?_
  rcases List.mem_cons.mp m with rfl | m
  · exact hxy
  · have hz := (List.pairwise_cons.mp h).1 z m
    by_cases e' : z = y
    · rw [e']; exact hxy
    · rcases ltS_tri e' with q | q
      · rw [hz] at q; cases q
      · exact ltS_trans hxy q
theorem lost_skip {x y : Str} {X Y : List Str} (h : ∀ z ∈ y :: Y, (z == x) = false) : lostS (x :: X) (y :: Y) = x :: lostS X (y :: Y) := by
  unfold lostS
  rw [List.filter_cons, if_pos]
  rw [Bool.not_eq_true', List.contains_eq_mem, decide_eq_false_iff_not]
  intro m
  have := h x m
  rw [beq_self_eq_true] at this; cases this
theorem lost_take {x : Str} {X ds Yq : List Str} (hX : Rising (x :: X)) (hd : ∀ d ∈ ds, d = x) : lostS (x :: X) (x :: (ds ++ Yq)) = lostS X Yq := by
  unfold lostS
  rw [List.filter_cons, if_neg (by simp)]
  refine List.filter_congr fun z hz => ?_
  have hne := Rising.hd hX hz
  congr 1
  rw [List.contains_eq_mem, List.contains_eq_mem]
  refine decide_eq_decide.mpr ⟨fun m => ?_, fun m => .tail _ (List.mem_append_right _ m)⟩
  have nx : z ≠ x := beq_eq_false_iff_ne.mp hne
  rcases List.mem_cons.mp m with q | m
  · exact absurd q nx
  · rcases List.mem_append.mp m with m | m
    · exact absurd (hd z m) nx
    · exact m
theorem two_rows {Xr Yq : List Str} (h : ∀ z ∈ Yq, z ∈ Xr) {c : Prop} (k0 : Xr = [] -> Yq = [] -> c) (k1 : ∀ x' Xs, Xr = x' :: Xs -> Yq = [] -> c) (k2 : ∀ x' Xs y' Ys, Xr = x' :: Xs -> Yq = y' :: Ys -> c) : c :=
  match Xr, Yq, h with
  | [], [], _ => k0 rfl rfl
  | [], y :: _, h => nomatch h y (.head _)
  | x :: Xs, [], _ => k1 x Xs rfl rfl
  | x :: Xs, y :: Ys, _ => k2 x Xs y Ys rfl rfl
set_option maxHeartbeats 1000000 in
theorem c_sld (T' : Tab5 B) {X Y : List Str} (hX : Rising X) (hY : Weakly Y) (hin : ∀ y ∈ Y, y ∈ X) (lX : X.length <= 100) (lY : Y.length <= 100) :
    Calls B (k + 2) "sorted_list_difference" [.list (sl X), .list (sl Y)] (.tup [.list (sl (lostS X Y)), .list []]) := by
  have T := T'.toTab2
  have big : (100000 : Nat) <= sizeLine := by decide
  refine Calls.ofT (o := .ret (.tup [.list (sl (lostS X Y)), .list []])) (xs := ["expected", "actual"]) (Γ' := []) T.toTab.O T'.sld (.plain (fun _ _ _ => len2 fun _ _ => rfl)) (by simp) ?_
  apply ExT.cons; apply Ex1.t; (apply Ex1.assign2; apply Ev.cint; (apply Asg.name; exact T.O; decide); (apply Asg.name; exact T.O; decide); exact rfl; exact rfl; ((try delta autoParam); intros; rfl); ((try delta autoParam); intros; rfl))
  apply ExT.cons; apply Ex1.t; apply Ex1.assignF; (exact T.O); (apply EvF.list; exact T.O; apply EvL.nil; exact Nat.le_of_ble_eq_true rfl); (decide); ((try delta autoParam); intros; rfl)
  apply ExT.cons; apply Ex1.t; apply Ex1.assignF; (exact T.O); (apply EvF.list; exact T.O; apply EvL.nil; exact Nat.le_of_ble_eq_true rfl); (decide); ((try delta autoParam); intros; rfl)
  refine ExT.cons (Γ₁ := sldZ (lostS X Y)) ?_ ?_
  rotate_left
  · refine ExT.share (x := "missing") (ExT.share (x := "unexpected") ?_ (by rfl)) (by rfl)
    refine ExT.weak (Ex.t (Ex.stop (Ex1.ret (Ev.tup (ds := [.list (sl (lostS X Y)), .list []]) T.toTab.O (by (apply EvL.cons; (apply Ev.name; exact rfl; exact rfl; exact rfl); (apply EvL.cons; (apply Ev.name; exact rfl; exact rfl; exact rfl); apply EvL.nil; exact rfl); exact rfl)) (by show 2 <= sizeLine; decide))) (by simp))) (fun y s hy => by cases hy)
  refine ExT1.whileEx ?_ (fun X => EvT.val (Ev.cbool.b) TruR.bool)
  refine (?_ : ∀ (Xr Yr Xp Yp M : List Str) (eX : X = Xp ++ Xr) (eY : Y = Yp ++ Yr) (hr : ∀ y ∈ Yr, y ∈ Xr) (hM : M.length <= 100) (lM : M.length <= Xp.length), ∃ n, WLoop B (k + 1) _ _ n (sldG X Y Xp.length Yp.length M) (sldZ (M ++ lostS Xr Yr))) X Y [] [] [] rfl rfl hin (by decide) (by decide)
  have szX : (sl X).length <= sizeLine := slSz lX
  have szY : (sl Y).length <= sizeLine := slSz lY
  intro Xr
  induction Xr with
  | nil =>
    intro Yr Xp Yp M eX eY hr hM lM
    have lx : Xp.length + 0 <= 100 := by rw [eX] at lX; simpa using lX
    have i0 : (0 : Int) <= ((Xp.length : Nat) : Int) := Int.natCast_nonneg _
    have i1 : ((Xp.length : Nat) : Int) < 2 ^ 63 := nat63 lx
    cases Yr with
    | cons y Yr => exact nomatch hr y (.head _)
    | nil =>
      have ly : Yp.length + 0 <= 100 := by rw [eY] at lY; simpa using lY
      have j0 : (0 : Int) <= ((Yp.length : Nat) : Int) := Int.natCast_nonneg _
      have j1 : ((Yp.length : Nat) : Int) < 2 ^ 63 := nat63 ly
      have hmz : (sl M).length + (cut (sl X) (some (Xp.length : Int)) none).length <= sizeLine := cutsz (sl101 hM) lX
      have huz : ([] : List D).length + (cut (sl Y) (some (Yp.length : Int)) none).length <= sizeLine := cutsz (by decide) lY
      have hi : ((sl X).length : Int) <= ((Xp.length : Nat) : Int) := by rw [sl_len, eX]; simp
      refine ⟨0, .brk (ExT.stop (ExT1.caught T.toTab.O (c := false) (Γ₁ := sldG X Y Xp.length Yp.length M) (ExX.head (ExX1.assign (EvX.sub T.toTab.O (EvB.sh (by rfl)) (EvB.sh (by rfl)) hi i1))) ?_ (T.toTab.blt _ _ (by rfl)) (by rfl)) (by simp))⟩
      have e1 : sl (M ++ lostS [] []) = sl M ++ cut (sl X) (some (Xp.length : Int)) none := by rw [cut_from, eX, List.drop_left' (by simp), sl_app]; rfl
      have e2 : ([] : List D) = [] ++ cut (sl Y) (some (Yp.length : Int)) none := by rw [cut_from, eY, List.drop_left' (by simp)]; rfl
      show Ex _ _ _ _ _ _ [("missing", .own none (.list (sl (M ++ lostS [] [])))), ("unexpected", .own none (.list []))]
      rw [e1, e2]
      apply Ex.weak
      · (focus (apply Ex.cons; (case' x => (apply Ex1.exprM; (apply EvN.m; (apply EvN.meth; exact rfl; (apply EvL.n; (apply EvL.cons; (apply EvF.ev; (apply EvF.slice; exact T.O; (apply EvB.sh; exact rfl; exact rfl; exact rfl); (apply EvP.some; (apply Ev.name; exact rfl; exact rfl; exact rfl)); apply EvP.none; (with_reducible assumption))); apply EvL.nil; exact rfl)); exact rfl; apply Meth.extend; apply OfType.list; (apply MutR.extend; exact T.O; (with_reducible assumption)); exact rfl; exact rfl; exact Nat.le_of_ble_eq_true rfl; exact rfl; exact rfl; ((try delta autoParam); intros; rfl))); ((try delta autoParam); intros; rfl))))); (focus (apply Ex.cons; (case' x => (apply Ex1.exprM; (apply EvN.m; (apply EvN.meth; exact rfl; (apply EvL.n; (apply EvL.cons; (apply EvF.ev; (apply EvF.slice; exact T.O; (apply EvB.sh; exact rfl; exact rfl; exact rfl); (apply EvP.some; (apply Ev.name; exact rfl; exact rfl; exact rfl)); apply EvP.none; (with_reducible assumption))); apply EvL.nil; exact rfl)); exact rfl; apply Meth.extend; apply OfType.list; (apply MutR.extend; exact T.O; (with_reducible assumption)); exact rfl; exact rfl; exact Nat.le_of_ble_eq_true rfl; exact rfl; exact rfl; ((try delta autoParam); intros; rfl))); ((try delta autoParam); intros; rfl)))))
        refine Ex.stop Ex1.brk (by simp)
      · exact lkCons (by rfl) (lkCons (by rfl) lkNil)
  | cons x Xr IH =>
    intro Yr Xp Yp M eX eY hr hM lM
    have lx : Xp.length + (Xr.length + 1) <= 100 := by rw [eX] at lX; simpa using lX
    have hXr : Rising (x :: Xr) := by rw [eX] at hX; exact hX.of_app
    have i0 : (0 : Int) <= ((Xp.length : Nat) : Int) := Int.natCast_nonneg _
    have i1 : ((Xp.length : Nat) : Int) < 2 ^ 63 := nat63 lx
    have i2 : (0 : Int) <= ((Xp.length : Nat) : Int) + 1 := nn1 _
    have i3 : ((Xp.length : Nat) : Int) + 1 < 2 ^ 63 := nat63' lx
    have hdx : (sl X)[((Xp.length : Nat) : Int).toNat]? = some (.str x) := by simp [sl, eX]
    have ei : (((Xp ++ [x]).length : Nat) : Int) = ((Xp.length : Nat) : Int) + 1 := by simp
    have hmz : (sl M).length + (cut (sl X) (some (Xp.length : Int)) none).length <= sizeLine := cutsz (sl101 hM) lX
    have szM : (sl M).length <= sizeLine := slSz hM
    cases Yr with
    | nil =>
      have ly : Yp.length + 0 <= 100 := by rw [eY] at lY; simpa using lY
      have j0 : (0 : Int) <= ((Yp.length : Nat) : Int) := Int.natCast_nonneg _
      have j1 : ((Yp.length : Nat) : Int) < 2 ^ 63 := nat63 ly
      have hj : ((sl Y).length : Int) <= ((Yp.length : Nat) : Int) := by rw [sl_len, eY]; simp
      have huz : ([] : List D).length + (cut (sl Y) (some (Yp.length : Int)) none).length <= sizeLine := cutsz (by decide) lY
      refine ⟨0, .brk (ExT.stop (ExT1.caught T.toTab.O (c := false) (Γ₁ := sldG X Y Xp.length Yp.length M ++ ([("e", .sh (.str x))] : G)) ?_ ?_ (T.toTab.blt _ _ (by rfl)) (by rfl)) (by simp))⟩
      · apply ExX.tail
        · (apply Ex1.assign; (apply Ev.sub; (apply EvB.sh; exact rfl; exact rfl; exact rfl); (apply EvB.sh; exact rfl; exact rfl; exact rfl); (apply SubR.list; (with_reducible assumption); (with_reducible assumption); (with_reducible assumption)); exact rfl); (apply Asg.name; exact T.O; decide); exact rfl; ((try delta autoParam); intros; rfl); ((try delta autoParam); intros; rfl))
        · exact ExX.head (ExX1.assign (EvX.sub T.toTab.O (EvB.sh (by rfl)) (EvB.sh (by rfl)) hj j1))
      · have e1 : sl (M ++ lostS (x :: Xr) []) = sl M ++ cut (sl X) (some (Xp.length : Int)) none := by rw [lost_nil, cut_from, eX, List.drop_left' (by simp), sl_app]
        have e2 : ([] : List D) = [] ++ cut (sl Y) (some (Yp.length : Int)) none := by rw [cut_from, eY, List.drop_left' (by simp)]; rfl
        show Ex _ _ _ _ _ _ [("missing", .own none (.list (sl (M ++ lostS (x :: Xr) [])))), ("unexpected", .own none (.list []))]
        rw [e1, e2]
        apply Ex.weak
        · (focus (apply Ex.cons; (case' x => (apply Ex1.exprM; (apply EvN.m; (apply EvN.meth; exact rfl; (apply EvL.n; (apply EvL.cons; (apply EvF.ev; (apply EvF.slice; exact T.O; (apply EvB.sh; exact rfl; exact rfl; exact rfl); (apply EvP.some; (apply Ev.name; exact rfl; exact rfl; exact rfl)); apply EvP.none; (with_reducible assumption))); apply EvL.nil; exact rfl)); exact rfl; apply Meth.extend; apply OfType.list; (apply MutR.extend; exact T.O; (with_reducible assumption)); exact rfl; exact rfl; exact Nat.le_of_ble_eq_true rfl; exact rfl; exact rfl; ((try delta autoParam); intros; rfl))); ((try delta autoParam); intros; rfl))))); (focus (apply Ex.cons; (case' x => (apply Ex1.exprM; (apply EvN.m; (apply EvN.meth; exact rfl; (apply EvL.n; (apply EvL.cons; (apply EvF.ev; (apply EvF.slice; exact T.O; (apply EvB.sh; exact rfl; exact rfl; exact rfl); (apply EvP.some; (apply Ev.name; exact rfl; exact rfl; exact rfl)); apply EvP.none; (with_reducible assumption))); apply EvL.nil; exact rfl)); exact rfl; apply Meth.extend; apply OfType.list; (apply MutR.extend; exact T.O; (with_reducible assumption)); exact rfl; exact rfl; exact Nat.le_of_ble_eq_true rfl; exact rfl; exact rfl; ((try delta autoParam); intros; rfl))); ((try delta autoParam); intros; rfl)))))
          refine Ex.stop Ex1.brk (by simp)
        · exact lkCons (by rfl) (lkCons (by rfl) lkNil)
    | cons y Yr =>
      have ly : Yp.length + (Yr.length + 1) <= 100 := by rw [eY] at lY; simpa using lY
      have hYr : Weakly (y :: Yr) := by rw [eY] at hY; exact (List.pairwise_append.mp hY).2.1
      have j0 : (0 : Int) <= ((Yp.length : Nat) : Int) := Int.natCast_nonneg _
      have j1 : ((Yp.length : Nat) : Int) < 2 ^ 63 := nat63 ly
      have j2 : (0 : Int) <= ((Yp.length : Nat) : Int) + 1 := nn1 _
      have j3 : ((Yp.length : Nat) : Int) + 1 < 2 ^ 63 := nat63' ly
      have hdy : (sl Y)[((Yp.length : Nat) : Int).toNat]? = some (.str y) := by simp [sl, eY]
      have ej : (((Yp ++ [y]).length : Nat) : Int) = ((Yp.length : Nat) : Int) + 1 := by simp
      by_cases h1 : ltS x y = true
      · have h1' : decide (x.cps.toList < y.cps.toList) = true := h1
        have hz := weak_lt hYr h1
        rw [lost_skip hz]
        have hm : ∀ z ∈ y :: Yr, z ∈ Xr := fun z m => (List.mem_cons.mp (hr z m)).resolve_left (beq_eq_false_iff_ne.mp (hz z m))
        cases Xr with
        | nil => exact nomatch hm y (.head _)
        | cons x' Xr =>
          have hdx' : (sl X)[(((Xp.length : Nat) : Int) + 1).toNat]? = some (.str x') := by
            rw [<- ei]; simp [sl, eX]
          have hne : (x' == x) = false := hXr.hd (.head _)
          refine byE (IH (y :: Yr) (Xp ++ [x]) Yp (M ++ [x]) (by rw [eX]; simp) eY hm (app100 lM lx) (appLe lM)) fun n w => ?_
          rw [List.append_assoc] at w
          refine ⟨n + 1, .turn (X₁ := sldG X Y (Xp ++ [x]).length Yp.length (M ++ [x])) (ExT.cons (Γ₁ := [("expected", .sh (.list (sl X))), ("actual", .sh (.list (sl Y))), ("i", .sh (.int (((Xp.length : Nat) : Int) + 1))), ("j", .sh (.int Yp.length)), ("missing", .own none (.list (sl M ++ [.str x]))), ("unexpected", .own none (.list [])), ("e", .sh (.str x)), ("a", .sh (.str y))]) (ExT1.try_ (Ex.t ?_)) (ExT.weak ExT.nil ?_)) w⟩
          · (focus (apply Ex.cons; (case' x => (apply Ex1.assign; (apply Ev.sub; (apply EvB.sh; exact rfl; exact rfl; exact rfl); (apply EvB.sh; exact rfl; exact rfl; exact rfl); (apply SubR.list; (with_reducible assumption); (with_reducible assumption); (with_reducible assumption)); exact rfl); (apply Asg.name; exact T.O; decide); exact rfl; ((try delta autoParam); intros; rfl); ((try delta autoParam); intros; rfl))))); (focus (apply Ex.cons; (case' x => (apply Ex1.assign; (apply Ev.sub; (apply EvB.sh; exact rfl; exact rfl; exact rfl); (apply EvB.sh; exact rfl; exact rfl; exact rfl); (apply SubR.list; (with_reducible assumption); (with_reducible assumption); (with_reducible assumption)); exact rfl); (apply Asg.name; exact T.O; decide); exact rfl; ((try delta autoParam); intros; rfl); ((try delta autoParam); intros; rfl)))))
            refine Ex.cons (Ex1.ife (EvT.cmp (EvB.sh (by rfl)) (EvB.sh (by rfl)) CmpR.lt_str) (fun _ => ?_) (fun hb => ?_)) .nil
            · (focus (apply Ex.cons; (case' x => (apply Ex1.exprM; (apply EvN.m; (apply EvN.meth; exact rfl; (apply EvL.n; (apply EvL.cons; (apply Ev.name; exact rfl; exact rfl; exact rfl); apply EvL.nil; exact rfl)); exact rfl; apply Meth.append; apply OfType.list; (apply MutR.append; exact T.O; (with_reducible assumption)); exact rfl; exact rfl; exact Nat.le_of_ble_eq_true rfl; exact rfl; exact rfl; ((try delta autoParam); intros; rfl))); ((try delta autoParam); intros; rfl))))); (focus (apply Ex.cons; (case' x => (apply Ex1.aug; exact T.O; exact rfl; (apply Ev.b; apply Ev.cint); apply InpR.add_int; decide; exact rfl))))
              refine Ex.cons (Ex1.whileNo ?_) .nil
              rw [<- hne]
              (apply EvT.cmp; (apply Ev.b; (apply Ev.sub; (apply EvB.sh; exact rfl; exact rfl; exact rfl); (apply EvB.sh; exact rfl; exact rfl; exact rfl); (apply SubR.list; (with_reducible assumption); (with_reducible assumption); (with_reducible assumption)); exact rfl)); (apply EvB.sh; exact rfl; exact rfl; exact rfl); apply CmpR.eq_str; exact rfl)
            · rw [h1'] at hb; cases hb
          · unfold sldG
            rw [ei, sl_app]
            exact fun y s hy => weakApp (X := [_, _]) hy
      · have exy : x = y := by
          rcases List.mem_cons.mp (hr y (.head _)) with q | q
          · exact q.symm
          · exact absurd ((List.pairwise_cons.mp hXr).1 y q) h1
        subst exy
        have h1' : decide (x.cps.toList < x.cps.toList) = false := ltS_irrefl x
        refine byEE (weak_split hYr) fun ds Yq q => byAAA q fun eYr hds hYq wYq => ?_
        rw [show lostS (x :: Xr) (x :: Yr) = lostS Xr Yq by rw [eYr]; exact lost_take hXr hds]
        have hrq : ∀ z ∈ Yq, z ∈ Xr := fun z m => (List.mem_cons.mp (hr z (eYr ▸ .tail _ (List.mem_append_right _ m)))).resolve_left (beq_eq_false_iff_ne.mp (hYq z m))
        have lyY : ∀ (j : Nat) (d : Str), Y[j]? = some d -> (sl Y)[((j : Nat) : Int).toNat]? = some (.str d) /\ (0 : Int) <= (j : Int) /\ (j : Int) < 2 ^ 63 := fun j d e => by
          have h := (List.getElem?_eq_some_iff.mp e).1
          exact ⟨by simp [sl, e], Int.natCast_nonneg _, nat63 (m := 0) (by omega)⟩
        have eYd : Y = (Yp ++ [x]) ++ (ds ++ Yq) := by rw [eY, eYr]; simp
        have hjY : ((sl Y).length : Int) <= ((Y.length : Nat) : Int) := by rw [sl_len]; exact Int.le_refl _
        have jY : ((Y.length : Nat) : Int) < 2 ^ 63 := nat63 (m := 0) (by omega)
        have jY0 : (0 : Int) <= ((Y.length : Nat) : Int) := Int.natCast_nonneg _
        have huzY : ([] : List D).length + (cut (sl Y) (some ((Y.length : Nat) : Int)) none).length <= sizeLine := cutsz (by decide) lY
        have hmz2 : (sl M).length + (cut (sl X) (some (((Xp.length : Nat) : Int) + 1)) none).length <= sizeLine := cutsz (sl101 hM) lX
        have eU : ([] : List D) = [] ++ cut (sl Y) (some ((Y.length : Nat) : Int)) none := by rw [cut_from, List.drop_length]; rfl
        have dX1 : X.drop (Xp ++ [x]).length = Xr := by rw [eX]; simp
        have eM : sl (M ++ Xr) = sl M ++ cut (sl X) (some (((Xp.length : Nat) : Int) + 1)) none := by rw [<- ei, cut_from, dX1, sl_app]
        refine two_rows hrq (fun e1 e2 => ?_) (fun x' Xs e1 e2 => ?_) fun x' Xs y' Ys e1 e2 => ?_
        · have eYd' : Y = (Yp ++ [x]) ++ ds := by rw [eYd, e2, List.append_nil]
          have hi : ((sl X).length : Int) <= ((Xp.length : Nat) : Int) + 1 := by rw [sl_len, eX, e1]; simp
          refine ⟨0, .brk (ExT.stop (ExT1.caught T.toTab.O (c := true) (Γ₁ := sldH X Y (((Xp.length : Nat) : Int) + 1) (Y.length : Nat) M x x) ?_ ?_ (T.toTab.blt _ _ (by rfl)) (by rfl)) (by simp))⟩
          · apply ExX.tail
            · (apply Ex1.assign; (apply Ev.sub; (apply EvB.sh; exact rfl; exact rfl; exact rfl); (apply EvB.sh; exact rfl; exact rfl; exact rfl); (apply SubR.list; (with_reducible assumption); (with_reducible assumption); (with_reducible assumption)); exact rfl); (apply Asg.name; exact T.O; decide); exact rfl; ((try delta autoParam); intros; rfl); ((try delta autoParam); intros; rfl))
            apply ExX.tail
            · (apply Ex1.assign; (apply Ev.sub; (apply EvB.sh; exact rfl; exact rfl; exact rfl); (apply EvB.sh; exact rfl; exact rfl; exact rfl); (apply SubR.list; (with_reducible assumption); (with_reducible assumption); (with_reducible assumption)); exact rfl); (apply Asg.name; exact T.O; decide); exact rfl; ((try delta autoParam); intros; rfl); ((try delta autoParam); intros; rfl))
            apply ExX.head
            apply ExX1.ife (EvT.cmp (EvB.sh (by rfl)) (EvB.sh (by rfl)) CmpR.lt_str)
            · intro hb
              rw [h1'] at hb; cases hb
            intro _
            apply ExX.head
            apply ExX1.ife (EvT.cmp (EvB.sh (by rfl)) (EvB.sh (by rfl)) CmpR.gt_str)
            · intro hb
              rw [h1'] at hb; cases hb
            intro _
            apply ExX.tail
            · (apply Ex1.aug; exact T.O; exact rfl; (apply Ev.b; apply Ev.cint); apply InpR.add_int; decide; exact rfl)
            apply ExX.head
            refine ExX1.finBR T.toTab.O (c := false) (ExX.head (ExX1.while_ T.toTab.O (EvTX.cmp (EvX.sub T.toTab.O (EvB.sh (by rfl)) (EvB.sh (by rfl)) hi i3)))) ?_
            apply ExX.tail
            · (apply Ex1.aug; exact T.O; exact rfl; (apply Ev.b; apply Ev.cint); apply InpR.add_int; decide; exact rfl)
            refine ExX.head (ExX1.whileX T.toTab.O (WhileX.run (H := fun j => sldH X Y (((Xp.length : Nat) : Int) + 1) j M x x) (x := x) (Y := Y) ?_ ?_ ?_ ds (Yp ++ [x]) eYd' hds _ (by simp)))
            · intro j d e
              refine byAA (lyY j d e) fun q1 q2 q3 => ?_
              dsimp only [sldH, sldG, List.cons_append, List.nil_append]
              (apply EvT.cmp; (apply Ev.b; (apply Ev.sub; (apply EvB.sh; exact rfl; exact rfl; exact rfl); (apply EvB.sh; exact rfl; exact rfl; exact rfl); (apply SubR.list; (with_reducible assumption); (with_reducible assumption); (with_reducible assumption)); exact rfl)); (apply EvB.sh; exact rfl; exact rfl; exact rfl); apply CmpR.eq_str; exact rfl)
            · intro j hj
              have q3 : (j : Int) + 1 < 2 ^ 63 := nat63' (m := 0) (by omega)
              have q2 : (0 : Int) <= (j : Int) := Int.natCast_nonneg _
              dsimp only [sldH, sldG, List.cons_append, List.nil_append]
              (focus (apply Ex.cons; (case y => apply Ex.nil); (case' x => (apply Ex1.aug; exact T.O; exact rfl; (apply Ev.b; apply Ev.cint); apply InpR.add_int; decide; exact rfl))))
            · exact EvTX.cmp (EvX.sub T.toTab.O (EvB.sh (by rfl)) (EvB.sh (by rfl)) hjY jY)
          · rw [e2, lost_nil]
            show Ex _ _ _ _ _ _ [("missing", .own none (.list (sl (M ++ Xr)))), ("unexpected", .own none (.list []))]
            rw [eM, eU]
            dsimp only [sldH, sldG, List.cons_append, List.nil_append]
            apply Ex.weak
            · (focus (apply Ex.cons; (case' x => (apply Ex1.exprM; (apply EvN.m; (apply EvN.meth; exact rfl; (apply EvL.n; (apply EvL.cons; (apply EvF.ev; (apply EvF.slice; exact T.O; (apply EvB.sh; exact rfl; exact rfl; exact rfl); (apply EvP.some; (apply Ev.name; exact rfl; exact rfl; exact rfl)); apply EvP.none; (with_reducible assumption))); apply EvL.nil; exact rfl)); exact rfl; apply Meth.extend; apply OfType.list; (apply MutR.extend; exact T.O; (with_reducible assumption)); exact rfl; exact rfl; exact Nat.le_of_ble_eq_true rfl; exact rfl; exact rfl; ((try delta autoParam); intros; rfl))); ((try delta autoParam); intros; rfl))))); (focus (apply Ex.cons; (case' x => (apply Ex1.exprM; (apply EvN.m; (apply EvN.meth; exact rfl; (apply EvL.n; (apply EvL.cons; (apply EvF.ev; (apply EvF.slice; exact T.O; (apply EvB.sh; exact rfl; exact rfl; exact rfl); (apply EvP.some; (apply Ev.name; exact rfl; exact rfl; exact rfl)); apply EvP.none; (with_reducible assumption))); apply EvL.nil; exact rfl)); exact rfl; apply Meth.extend; apply OfType.list; (apply MutR.extend; exact T.O; (with_reducible assumption)); exact rfl; exact rfl; exact Nat.le_of_ble_eq_true rfl; exact rfl; exact rfl; ((try delta autoParam); intros; rfl))); ((try delta autoParam); intros; rfl)))))
              refine Ex.stop Ex1.brk (by simp)
            · exact lkCons (by rfl) (lkCons (by rfl) lkNil)
        · have eYd' : Y = (Yp ++ [x]) ++ ds := by rw [eYd, e2, List.append_nil]
          have hdx' : (sl X)[(((Xp.length : Nat) : Int) + 1).toNat]? = some (.str x') := by
            rw [<- ei]; simp [sl, eX, e1]
          have hne : (x' == x) = false := hXr.hd (e1 ▸ .head _)
          refine ⟨0, .brk (ExT.stop (ExT1.caught T.toTab.O (c := false) (Γ₁ := sldH X Y (((Xp.length : Nat) : Int) + 1) (Y.length : Nat) M x x) ?_ ?_ (T.toTab.blt _ _ (by rfl)) (by rfl)) (by simp))⟩
          · apply ExX.tail
            · (apply Ex1.assign; (apply Ev.sub; (apply EvB.sh; exact rfl; exact rfl; exact rfl); (apply EvB.sh; exact rfl; exact rfl; exact rfl); (apply SubR.list; (with_reducible assumption); (with_reducible assumption); (with_reducible assumption)); exact rfl); (apply Asg.name; exact T.O; decide); exact rfl; ((try delta autoParam); intros; rfl); ((try delta autoParam); intros; rfl))
            apply ExX.tail
            · (apply Ex1.assign; (apply Ev.sub; (apply EvB.sh; exact rfl; exact rfl; exact rfl); (apply EvB.sh; exact rfl; exact rfl; exact rfl); (apply SubR.list; (with_reducible assumption); (with_reducible assumption); (with_reducible assumption)); exact rfl); (apply Asg.name; exact T.O; decide); exact rfl; ((try delta autoParam); intros; rfl); ((try delta autoParam); intros; rfl))
            apply ExX.head
            apply ExX1.ife (EvT.cmp (EvB.sh (by rfl)) (EvB.sh (by rfl)) CmpR.lt_str)
            · intro hb
              rw [h1'] at hb; cases hb
            intro _
            apply ExX.head
            apply ExX1.ife (EvT.cmp (EvB.sh (by rfl)) (EvB.sh (by rfl)) CmpR.gt_str)
            · intro hb
              rw [h1'] at hb; cases hb
            intro _
            apply ExX.tail
            · (apply Ex1.aug; exact T.O; exact rfl; (apply Ev.b; apply Ev.cint); apply InpR.add_int; decide; exact rfl)
            apply ExX.head
            apply ExX1.finR T.toTab.O (c := false)
            · refine Ex.cons (Ex1.whileNo ?_) .nil
              rw [<- hne]
              (apply EvT.cmp; (apply Ev.b; (apply Ev.sub; (apply EvB.sh; exact rfl; exact rfl; exact rfl); (apply EvB.sh; exact rfl; exact rfl; exact rfl); (apply SubR.list; (with_reducible assumption); (with_reducible assumption); (with_reducible assumption)); exact rfl)); (apply EvB.sh; exact rfl; exact rfl; exact rfl); apply CmpR.eq_str; exact rfl)
            apply ExX.tail
            · (apply Ex1.aug; exact T.O; exact rfl; (apply Ev.b; apply Ev.cint); apply InpR.add_int; decide; exact rfl)
            refine ExX.head (ExX1.whileX T.toTab.O (WhileX.run (H := fun j => sldH X Y (((Xp.length : Nat) : Int) + 1) j M x x) (x := x) (Y := Y) ?_ ?_ ?_ ds (Yp ++ [x]) eYd' hds _ (by simp)))
            · intro j d e
              refine byAA (lyY j d e) fun q1 q2 q3 => ?_
              dsimp only [sldH, sldG, List.cons_append, List.nil_append]
              (apply EvT.cmp; (apply Ev.b; (apply Ev.sub; (apply EvB.sh; exact rfl; exact rfl; exact rfl); (apply EvB.sh; exact rfl; exact rfl; exact rfl); (apply SubR.list; (with_reducible assumption); (with_reducible assumption); (with_reducible assumption)); exact rfl)); (apply EvB.sh; exact rfl; exact rfl; exact rfl); apply CmpR.eq_str; exact rfl)
            · intro j hj
              have q3 : (j : Int) + 1 < 2 ^ 63 := nat63' (m := 0) (by omega)
              have q2 : (0 : Int) <= (j : Int) := Int.natCast_nonneg _
              dsimp only [sldH, sldG, List.cons_append, List.nil_append]
              (focus (apply Ex.cons; (case y => apply Ex.nil); (case' x => (apply Ex1.aug; exact T.O; exact rfl; (apply Ev.b; apply Ev.cint); apply InpR.add_int; decide; exact rfl))))
            · exact EvTX.cmp (EvX.sub T.toTab.O (EvB.sh (by rfl)) (EvB.sh (by rfl)) hjY jY)
          · rw [e2, lost_nil]
            show Ex _ _ _ _ _ _ [("missing", .own none (.list (sl (M ++ Xr)))), ("unexpected", .own none (.list []))]
            rw [eM, eU]
            dsimp only [sldH, sldG, List.cons_append, List.nil_append]
            apply Ex.weak
            · (focus (apply Ex.cons; (case' x => (apply Ex1.exprM; (apply EvN.m; (apply EvN.meth; exact rfl; (apply EvL.n; (apply EvL.cons; (apply EvF.ev; (apply EvF.slice; exact T.O; (apply EvB.sh; exact rfl; exact rfl; exact rfl); (apply EvP.some; (apply Ev.name; exact rfl; exact rfl; exact rfl)); apply EvP.none; (with_reducible assumption))); apply EvL.nil; exact rfl)); exact rfl; apply Meth.extend; apply OfType.list; (apply MutR.extend; exact T.O; (with_reducible assumption)); exact rfl; exact rfl; exact Nat.le_of_ble_eq_true rfl; exact rfl; exact rfl; ((try delta autoParam); intros; rfl))); ((try delta autoParam); intros; rfl))))); (focus (apply Ex.cons; (case' x => (apply Ex1.exprM; (apply EvN.m; (apply EvN.meth; exact rfl; (apply EvL.n; (apply EvL.cons; (apply EvF.ev; (apply EvF.slice; exact T.O; (apply EvB.sh; exact rfl; exact rfl; exact rfl); (apply EvP.some; (apply Ev.name; exact rfl; exact rfl; exact rfl)); apply EvP.none; (with_reducible assumption))); apply EvL.nil; exact rfl)); exact rfl; apply Meth.extend; apply OfType.list; (apply MutR.extend; exact T.O; (with_reducible assumption)); exact rfl; exact rfl; exact Nat.le_of_ble_eq_true rfl; exact rfl; exact rfl; ((try delta autoParam); intros; rfl))); ((try delta autoParam); intros; rfl)))))
              refine Ex.stop Ex1.brk (by simp)
            · exact lkCons (by rfl) (lkCons (by rfl) lkNil)
        · have hdx' : (sl X)[(((Xp.length : Nat) : Int) + 1).toNat]? = some (.str x') := by
            rw [<- ei]; simp [sl, eX, e1]
          have hne : (x' == x) = false := hXr.hd (e1 ▸ .head _)
          have eYd' : Y = (Yp ++ [x]) ++ (ds ++ y' :: Ys) := by rw [eYd, e2]
          refine byE (IH Yq (Xp ++ [x]) (Yp ++ [x] ++ ds) M (by rw [eX]; simp) (by rw [eYd]; simp) hrq hM (appLe' lM)) fun n w => ?_
          refine ⟨n + 1, .turn (X₁ := sldG X Y (Xp ++ [x]).length (Yp ++ [x] ++ ds).length M) (ExT.cons (Γ₁ := sldH X Y (((Xp.length : Nat) : Int) + 1) ((Yp ++ [x] ++ ds).length : Nat) M x x) (ExT1.try_ (Ex.t ?_)) (ExT.weak ExT.nil ?_)) w⟩
          · (focus (apply Ex.cons; (case' x => (apply Ex1.assign; (apply Ev.sub; (apply EvB.sh; exact rfl; exact rfl; exact rfl); (apply EvB.sh; exact rfl; exact rfl; exact rfl); (apply SubR.list; (with_reducible assumption); (with_reducible assumption); (with_reducible assumption)); exact rfl); (apply Asg.name; exact T.O; decide); exact rfl; ((try delta autoParam); intros; rfl); ((try delta autoParam); intros; rfl))))); (focus (apply Ex.cons; (case' x => (apply Ex1.assign; (apply Ev.sub; (apply EvB.sh; exact rfl; exact rfl; exact rfl); (apply EvB.sh; exact rfl; exact rfl; exact rfl); (apply SubR.list; (with_reducible assumption); (with_reducible assumption); (with_reducible assumption)); exact rfl); (apply Asg.name; exact T.O; decide); exact rfl; ((try delta autoParam); intros; rfl); ((try delta autoParam); intros; rfl)))))
            refine Ex.cons (Ex1.ife (EvT.cmp (EvB.sh (by rfl)) (EvB.sh (by rfl)) CmpR.lt_str) (fun hb => ?_) (fun _ => ?_)) .nil
            · rw [h1'] at hb; cases hb
            · refine Ex.cons (Ex1.ife (EvT.cmp (EvB.sh (by rfl)) (EvB.sh (by rfl)) CmpR.gt_str) (fun hb => ?_) (fun _ => ?_)) .nil
              · rw [h1'] at hb; cases hb
              · (focus (apply Ex.cons; (case' x => (apply Ex1.aug; exact T.O; exact rfl; (apply Ev.b; apply Ev.cint); apply InpR.add_int; decide; exact rfl))))
                apply Ex.cons
                · apply Ex1.finally_
                  · refine Ex.cons (Ex1.whileNo ?_) .nil
                    rw [<- hne]
                    (apply EvT.cmp; (apply Ev.b; (apply Ev.sub; (apply EvB.sh; exact rfl; exact rfl; exact rfl); (apply EvB.sh; exact rfl; exact rfl; exact rfl); (apply SubR.list; (with_reducible assumption); (with_reducible assumption); (with_reducible assumption)); exact rfl)); (apply EvB.sh; exact rfl; exact rfl; exact rfl); apply CmpR.eq_str; exact rfl)
                  · (focus (apply Ex.cons; (case' x => (apply Ex1.aug; exact T.O; exact rfl; (apply Ev.b; apply Ev.cint); apply InpR.add_int; decide; exact rfl))))
                    refine Ex.cons (Ex1.while_ (WhileS.run (H := fun j => sldH X Y (((Xp.length : Nat) : Int) + 1) j M x x) (x := x) (Y := Y) ?_ ?_ ds (Yp ++ [x]) (y' :: Ys) eYd' hds (fun y e => hYq y (by cases e; rw [e2]; exact .head _)) (by simp) _ (by simp))) .nil
                    · intro j d e
                      refine byAA (lyY j d e) fun q1 q2 q3 => ?_
                      dsimp only [sldH, sldG, List.cons_append, List.nil_append]
                      (apply EvT.cmp; (apply Ev.b; (apply Ev.sub; (apply EvB.sh; exact rfl; exact rfl; exact rfl); (apply EvB.sh; exact rfl; exact rfl; exact rfl); (apply SubR.list; (with_reducible assumption); (with_reducible assumption); (with_reducible assumption)); exact rfl)); (apply EvB.sh; exact rfl; exact rfl; exact rfl); apply CmpR.eq_str; exact rfl)
                    · intro j hj
                      have q3 : (j : Int) + 1 < 2 ^ 63 := nat63' (m := 0) (by omega)
                      have q2 : (0 : Int) <= (j : Int) := Int.natCast_nonneg _
                      dsimp only [sldH, sldG, List.cons_append, List.nil_append]
                      (focus (apply Ex.cons; (case y => apply Ex.nil); (case' x => (apply Ex1.aug; exact T.O; exact rfl; (apply Ev.b; apply Ev.cint); apply InpR.add_int; decide; exact rfl))))
                · exact .nil
          · unfold sldG
            rw [ei]
            exact fun y s hy => weakApp (X := [_, _]) hy
open PySem PySem.W PySem.Calls PyProof.Rows
structure Tab6 (B : Base) : Prop extends Tab5 B where
  drawn : FnAt B "_law_drawn" d_law_drawn_args d_law_drawn_body d_law_drawn_scope
variable {B : Base} {k : Nat}
noncomputable def addC : Nat -> List Int -> List Int -> List Int
  | _, [], c => c
  | k, x :: l, c => addC (k + 1) l (c.set ((k : Int).fmod 3).toNat (c.getD ((k : Int).fmod 3).toNat 0 + x.fmod 10000000))
noncomputable def pool : List Str := ["\t", "\n", "\r", "\"", "#", "&", "'", "<", "=", ">", "a", "&lt;"]
noncomputable def takeN : Nat -> Int -> List Str -> List Str
  | 0, _, _ => []
  | n + 1, r, p => getS p (r.fmod (p.length : Nat)) :: takeN n (r.fdiv (p.length : Nat)) (p.eraseIdx (r.fmod (p.length : Nat)).toNat)
noncomputable def restN : Nat -> Int -> List Str -> Int
  | 0, r, _ => r
  | n + 1, r, p => restN n (r.fdiv (p.length : Nat)) (p.eraseIdx (r.fmod (p.length : Nat)).toNat)
noncomputable def leftN : Nat -> Int -> List Str -> List Str
  | 0, _, p => p
  | n + 1, r, p => leftN n (r.fdiv (p.length : Nat)) (p.eraseIdx (r.fmod (p.length : Nat)).toNat)
noncomputable def digs : Int -> List Int -> List Int
  | _, [] => []
  | r, k :: l => r.fmod k :: digs (r.fdiv k) l
noncomputable def restO : Int -> List Int -> Int
  | r, [] => r
  | r, k :: l => restO (r.fdiv k) l
noncomputable def goesAt (c k : Int) : Int := (c.fdiv (6 ^ k.toNat)).fmod 6
noncomputable def drawnD (c : List Int) : D := .tup [.int ((c.getD 0 0).fmod 5), .list (sl (takeN 6 ((c.getD 0 0).fdiv 5) pool)), .list (il ([0, 1, 2, 3, 4, 5].map (goesAt (c.getD 1 0)))), .list (il (0 :: digs (c.getD 2 0) [1, 2, 3, 4, 5])), .int ((restO (c.getD 2 0) [1, 2, 3, 4, 5]).fmod 6)]
theorem addC_len : ∀ (l : List Int) (k : Nat) (c : List Int), (addC k l c).length = c.length
  | [], _, _ => rfl
  | x :: l, k, c => by rw [addC, addC_len l]; simp
theorem divSmall {x y : Int} (h : y.natAbs < 2 ^ 60) : Builtin.divisionGoesByPylong x y = false := by
  unfold Builtin.divisionGoesByPylong
  by_cases h0 : y = 0
  · subst h0; rfl
  · have : y.natAbs.log2 < 60 := (Nat.log2_lt (by omega)).mpr h
    simp [h0]
    intro h; omega
theorem fmodNN (a : Int) {b : Int} (h : 0 < b) : 0 <= a.fmod b := by
  rw [Int.fmod_eq_emod_of_nonneg a (by omega)]; exact Int.emod_nonneg _ (by omega)
theorem sl_erase : ∀ (p : List Str) (n : Nat), sl (p.eraseIdx n) = (sl p).eraseIdx n
  | [], _ => rfl
  | _ :: _, 0 => rfl
  | x :: p, n + 1 => congrArg (D.str x :: ·) (sl_erase p n)
theorem fm3 (n : Nat) : 0 <= (n : Int).fmod 3 /\ (n : Int).fmod 3 < 2 ^ 63 /\ ((n : Int).fmod 3).toNat < 3 := by
  have h0 : 0 <= (n : Int).fmod 3 := fmodNN _ (by decide)
  have h4 : (n : Int).fmod 3 < 3 := Int.fmod_lt_of_pos _ (by decide)
  omega
theorem three {l c : List Int} (h : c.length = 3) (n : Nat) : ∃ a b d, addC n l c = [a, b, d] := by
  have := addC_len l n c
  rw [h] at this
  match addC n l c, this with
  | [a, b, d], _ => exact ⟨a, b, d, rfl⟩
theorem poolN {p : List Str} {ns : List Str} {t n : Nat} (hp : n = t + 1 + 6) (ht : ns.length + (t + 1) <= 60) (hn : p.length = n) (r : Int) : ((n : Nat) : Int) ≠ 0 /\ Builtin.divisionGoesByPylong r ((n : Nat) : Int) = false /\ 0 <= r.fmod ((n : Nat) : Int) /\ r.fmod ((n : Nat) : Int) < ((n : Nat) : Int) /\ (r.fmod ((n : Nat) : Int)).toNat < p.length /\ n <= 100 /\ ns.length <= 60 := by
  have h0 : 0 <= r.fmod ((n : Nat) : Int) := fmodNN _ (by omega)
  have h1 : r.fmod ((n : Nat) : Int) < ((n : Nat) : Int) := Int.fmod_lt_of_pos _ (by omega)
  exact ⟨by omega, divSmall (by omega), h0, h1, by omega, by omega, by omega⟩
theorem six6 {k : Int} (m : k ∈ ([0, 1, 2, 3, 4, 5] : List Int)) : 0 <= k /\ (↑(Builtin.Int.intBits 6) : Int) * k <= 2 ^ 27 /\ (6 : Int) ^ k.toNat ≠ 0 /\ ((6 : Int) ^ k.toNat).natAbs < 2 ^ 60 := by
  simp only [List.mem_cons, List.not_mem_nil, or_false] at m
  rcases m with rfl | rfl | rfl | rfl | rfl | rfl <;> decide
set_option maxHeartbeats 4000000 in
theorem c_drawn (T' : Tab6 B) {script : List Int} (hl : script.length ≤ sizeLine) : Calls B (k + 2) "_law_drawn" [.list (il script)] (drawnD (addC 0 (script.take 60) [2415198, 8428, 442])) := by
  have T := T'.toTab2
  have big : (60 : Nat) <= sizeLine := by decide
  refine Calls.of (o := .ret (drawnD (addC 0 (script.take 60) [2415198, 8428, 442]))) (xs := ["script"]) (Γ' := []) T.toTab.O T'.drawn (.plain (fun _ _ _ => len1 fun _ => rfl)) (by simp) ?_
  (focus (apply Ex.cons; (case' x => (apply Ex1.assignF; exact T.O; (apply EvF.list; exact T.O; (apply EvL.cons; apply Ev.cint; (apply EvL.cons; apply Ev.cint; (apply EvL.cons; apply Ev.cint; apply EvL.nil; exact rfl); exact rfl); exact rfl); exact Nat.le_of_ble_eq_true rfl); decide; ((try delta autoParam); intros; rfl)))))
  refine Ex.cons (Γ₁ := [("script", .sh (.list (il script))), ("cells", .own none (.list (il (addC 0 (script.take 60) [2415198, 8428, 442]))))]) ?_ ?_
  · have hz : (il script).length <= sizeLine := by simpa [il] using hl
    have e : cut (il script) none (some 60) = il (script.take 60) := (cut_takes _ 60).trans (List.map_take ..).symm
    refine Ex1.for_ (ds := numD 0 (il (script.take 60))) (EvI.enum T.toTab.O (T.toTab.blt _ _ (by rfl)) (by rfl) (EvL.cons (by rw [<- e]; (apply EvF.ev; (apply EvF.slice; exact T.O; (apply EvB.sh; exact rfl; exact rfl; exact rfl); apply EvP.none; (apply EvP.some; apply Ev.cint); (with_reducible assumption)))) .nil)) ?_
    refine (?_ : ∀ (rest : List Int) (n : Nat) (c : List Int) (hc : c.length = 3), Loop B _ _ _ _ [("script", .sh (.list (il script))), ("cells", .own none (.list (il c)))] (numD n (il rest)) .next [("script", .sh (.list (il script))), ("cells", .own none (.list (il (addC n rest c))))]) (script.take 60) 0 [2415198, 8428, 442] rfl
    intro rest
    induction rest with
    | nil => intro n c hc; exact .done
    | cons x rest IH =>
      intro n c hc
      refine byAA (fm3 n) fun h0 h5 h6 => ?_
      have hlen : ((n : Int).fmod 3).toNat < (il c).length := by rw [il_len, hc]; exact h6
      have hzc : (il c).length <= sizeLine := il60 (by rw [hc]; decide)
      have hd : (il c)[((n : Int).fmod 3).toNat]? = some (.int (c.getD ((n : Int).fmod 3).toNat 0)) := il_get (by rw [hc]; exact h6)
      apply Loop.step'
      · exact IH (n + 1) (c.set ((n : Int).fmod 3).toNat (c.getD ((n : Int).fmod 3).toNat 0 + x.fmod 10000000)) (by rw [List.length_set]; exact hc)
      · (apply Asg.tup; exact T.O; (apply AsgL.cons; (apply Asg.name; exact T.O; decide); (apply AsgL.cons; (apply Asg.name; exact T.O; decide); apply AsgL.nil; exact rfl); exact rfl); exact rfl; exact rfl)
      · apply Ex.weak
        · (focus (apply Ex.cons; (case y => apply Ex.nil); (case' x => (focus (apply Ex1.augItem; (case hx => exact rfl); (case w => (apply Ev.bin; (apply EvB.sh; exact rfl; exact rfl; exact rfl); (apply Ev.b; apply Ev.cint); (apply BinR.mod_int; decide))); (case u => (apply Ev.bin; (apply EvB.sh; exact rfl; exact rfl; exact rfl); (apply Ev.b; apply Ev.cint); (apply BinR.mod_int; decide))); (apply SubR.list; (with_reducible assumption); (with_reducible assumption); (with_reducible assumption)); apply InpR.add_int; (apply SetR.listI; exact T.O; (with_reducible assumption); (with_reducible assumption); (with_reducible assumption)); ((try delta autoParam); intros; rfl); exact rfl; exact rfl)))))
        · rw [il_set]
          exact fun y s hy => weakApp (X := [_, _]) hy
  refine byE (three (l := script.take 60) (c := [2415198, 8428, 442]) rfl 0) fun c0 hq => byEE hq fun c1 c2 hc => ?_
  rw [hc]
  (focus (apply Ex.cons; (case' x => (apply Ex1.assignF; exact T.O; (apply EvF.list; exact T.O; (apply EvL.cons; apply Ev.cstr; (apply EvL.cons; apply Ev.cstr; (apply EvL.cons; apply Ev.cstr; (apply EvL.cons; apply Ev.cstr; (apply EvL.cons; apply Ev.cstr; (apply EvL.cons; apply Ev.cstr; (apply EvL.cons; apply Ev.cstr; (apply EvL.cons; apply Ev.cstr; (apply EvL.cons; apply Ev.cstr; (apply EvL.cons; apply Ev.cstr; (apply EvL.cons; apply Ev.cstr; (apply EvL.cons; apply Ev.cstr; apply EvL.nil; exact rfl); exact rfl); exact rfl); exact rfl); exact rfl); exact rfl); exact rfl); exact rfl); exact rfl); exact rfl); exact rfl); exact rfl); exact Nat.le_of_ble_eq_true rfl); decide; ((try delta autoParam); intros; rfl)))))
  (focus (apply Ex.cons; (case' x => (apply Ex1.assign; (apply Ev.bin; (apply Ev.b; (apply Ev.sub; (apply EvB.own; exact rfl; exact rfl; exact rfl); (apply Ev.b; apply Ev.cint); (apply SubR.list; decide; decide; exact rfl); exact rfl)); (apply Ev.b; apply Ev.cint); (apply BinR.div_int; decide; exact rfl)); (apply Asg.name; exact T.O; decide); exact rfl; ((try delta autoParam); intros; rfl); ((try delta autoParam); intros; rfl)))))
  (focus (apply Ex.cons; (case' x => (apply Ex1.assignF; exact T.O; (apply EvF.list; exact T.O; apply EvL.nil; exact Nat.le_of_ble_eq_true rfl); decide; ((try delta autoParam); intros; rfl)))))
  let Gm : Int → List Str → List Str → G := fun r p ns => [("script", .sh (.list (il script))), ("cells", .own none (.list (il [c0, c1, c2]))), ("pool", .own none (.list (sl p))), ("rest", .sh (.int r)), ("names", .own none (.list (sl ns)))]
  refine Ex.cons (Γ₁ := Gm (restN 6 (c0.fdiv 5) pool) (leftN 6 (c0.fdiv 5) pool) (takeN 6 (c0.fdiv 5) pool)) (Ex1.for_ (ds := il [0, 1, 2, 3, 4, 5]) (EvI.range1 T.toTab.O (T.toTab.blt _ _ (by rfl)) (by rfl) (n := 6) (EvLB.cons (Ev.cint.b) .nil) (by decide) (by decide)) ?_) ?_
  · refine (?_ : ∀ (ts : List Int) (r : Int) (p ns : List Str) (hp : p.length = ts.length + 6) (ht : ns.length + ts.length <= 60), Loop B _ _ _ _ (Gm r p ns) (il ts) .next (Gm (restN ts.length r p) (leftN ts.length r p) (ns ++ takeN ts.length r p))) [0, 1, 2, 3, 4, 5] (c0.fdiv 5) pool [] rfl (by decide)
    intro ts
    induction ts with
    | nil => intro r p ns hp ht; rw [show ns ++ takeN ([] : List Int).length r p = ns from List.append_nil _]; exact .done
    | cons t ts IH =>
      intro r p ns hp ht
      refine byAAAA (poolN (p := p) hp ht rfl r) fun hne hdz h0 h1 hq => byAA hq fun hrl hp100 hn60 => ?_
      have hd : (sl p)[(r.fmod ((p.length : Nat) : Int)).toNat]? = some (.str (getS p (r.fmod ((p.length : Nat) : Int)))) := sl_get hrl
      have hzp : (sl p).length <= sizeLine := by rw [sl_len]; exact Nat.le_trans hp100 (by decide)
      have hzn : (sl ns).length <= sizeLine := sl60 hn60
      apply Loop.step'
      · have := IH (r.fdiv ((p.length : Nat) : Int)) (p.eraseIdx (r.fmod ((p.length : Nat) : Int)).toNat) (ns ++ [getS p (r.fmod ((p.length : Nat) : Int))]) (by rw [List.length_eraseIdx_of_lt hrl, hp]; rfl) (by rw [List.length_append, Nat.add_assoc, Nat.add_comm [_].length]; exact ht)
        rw [List.append_assoc] at this
        exact this
      · (apply Asg.name; exact T.O; decide)
      · rw [<- sl_len p] at hne hdz h0 h1 hd
        apply Ex.weak
        · (focus (apply Ex.cons; (case' x => (apply Ex1.assign; (apply Ev.blt; exact T.O; exact T.blt _ _ (by rfl); exact rfl; (apply EvLB.cons; (apply EvB.sh; exact rfl; exact rfl; exact rfl); (apply EvLB.cons; (apply Ev.b; (apply Ev.blt; exact T.O; exact T.blt _ _ (by rfl); exact rfl; (apply EvLB.cons; (apply EvB.own; exact rfl; exact rfl; exact rfl); apply EvLB.nil; exact rfl); (apply BltR.lenList; (with_reducible assumption)); exact rfl; exact rfl; exact rfl)); apply EvLB.nil; exact rfl); exact rfl); (apply BltR.divmod; exact T.O; (with_reducible assumption); (with_reducible assumption)); exact rfl; exact rfl; exact rfl); (apply Asg.tup; exact T.O; (apply AsgL.cons; (apply Asg.name; exact T.O; decide); (apply AsgL.cons; (apply Asg.name; exact T.O; decide); apply AsgL.nil; exact rfl); exact rfl); exact rfl; exact rfl); exact rfl; ((try delta autoParam); intros; rfl); ((try delta autoParam); intros; rfl)))))
          refine Ex.cons (Ex1.exprM (EvN.m (EvN.meth (x := "names") (by rfl) (EvLN.cons (EvN.meth (x := "pool") (by rfl) (EvL.n (EvL.cons (Ev.name (by rfl)) .nil)) (by rfl) Meth.pop OfType.list (MutR.popI T.toTab.O h0 hd hzp)) .nil) (by rfl) Meth.append OfType.list (MutR.append T.toTab.O hzn)))) .nil
        · simp only [Gm]
          rw [sl_erase, sl_app, sl_len]
          exact fun y s hy => weakApp (X := [_, _]) hy
  simp only [Gm]
  refine Ex.cons (Ex1.assignC (cx := false) (out := il ([0, 1, 2, 3, 4, 5].map (goesAt c1))) T.toTab.O (EvI.b (EvI.range1 T.toTab.O (T.toTab.blt _ _ (by rfl)) (by rfl) (n := 6) (EvLB.cons (Ev.cint.b) .nil) (by decide) (by decide))) (by exact ScOk.of (by rfl) (by rfl) (by rfl) (by intros; rfl) (by intros; rfl)) (by rfl) ?_ (by show 6 <= sizeLine; decide) (.inl (by rfl)) (by intros; rfl) (fun env eo => swapsC (by rfl) (by rfl) (by rfl) env eo)) ?_
  · refine (CompR.map D.int (fun k => .int (goesAt c1 k)) [0, 1, 2, 3, 4, 5] fun k m => ?_)
    refine byAAA (six6 m) fun hk0 hb h6 h7 => ?_
    have hdz : Builtin.divisionGoesByPylong c1 ((6 : Int) ^ k.toNat) = false := divSmall h7
    have hdc : (il [c0, c1, c2])[(1 : Int).toNat]? = some (.int c1) := rfl
    show Ev _ _ _ _ _ (.int ((c1.fdiv (6 ^ k.toNat)).fmod 6))
    (apply Ev.bin; (apply Ev.b; (apply Ev.bin; (apply Ev.b; (apply Ev.sub; (apply EvB.own; exact rfl; exact rfl; exact rfl); (apply Ev.b; apply Ev.cint); (apply SubR.list; decide; decide; (with_reducible assumption)); exact rfl)); (apply Ev.b; (apply Ev.bin; (apply Ev.b; apply Ev.cint); (apply EvB.sh; exact rfl; exact rfl; exact rfl); (apply BinR.pow_int; (with_reducible assumption); (with_reducible assumption)))); (apply BinR.div_int; (with_reducible assumption); (with_reducible assumption)))); (apply Ev.b; apply Ev.cint); (apply BinR.mod_int; decide))
  (focus (apply Ex.cons; (case' x => (apply Ex1.assign; (apply Ev.sub; (apply EvB.own; exact rfl; exact rfl; exact rfl); (apply Ev.b; apply Ev.cint); (apply SubR.list; decide; decide; exact rfl); exact rfl); (apply Asg.name; exact T.O; decide); exact rfl; ((try delta autoParam); intros; rfl); ((try delta autoParam); intros; rfl)))))
  (focus (apply Ex.cons; (case' x => (apply Ex1.assignF; exact T.O; (apply EvF.list; exact T.O; (apply EvL.cons; apply Ev.cint; apply EvL.nil; exact rfl); exact Nat.le_of_ble_eq_true rfl); decide; ((try delta autoParam); intros; rfl)))))
  refine Ex.cons (Γ₁ := ?G1) (Ex1.for_ (ds := il [1, 2, 3, 4, 5]) (EvI.range2 T.toTab.O (T.toTab.blt _ _ (by rfl)) (by rfl) (n := 5) (EvLB.cons (Ev.cint.b) (EvLB.cons (Ev.cint.b) .nil)) (by decide) (by decide)) ?L1) ?_
  case L1 =>
    iterate 5 (apply Loop.step'; rotate_left; (apply Asg.name; exact T.O; decide); (focus (apply Ex.cons; (case' x => (apply Ex1.assign; (apply Ev.blt; exact T.O; exact T.blt _ _ (by rfl); exact rfl; (apply EvLB.cons; (apply EvB.sh; exact rfl; exact rfl; exact rfl); (apply EvLB.cons; (apply EvB.sh; exact rfl; exact rfl; exact rfl); apply EvLB.nil; exact rfl); exact rfl); (apply BltR.divmod; exact T.O; decide; exact rfl); exact rfl; exact rfl; exact rfl); (apply Asg.tup; exact T.O; (apply AsgL.cons; (apply Asg.name; exact T.O; decide); (apply AsgL.cons; (apply Asg.name; exact T.O; decide); apply AsgL.nil; exact rfl); exact rfl); exact rfl; exact rfl); exact rfl; ((try delta autoParam); intros; rfl); ((try delta autoParam); intros; rfl))))); (show Ex _ _ _ [_, _, _, _, _, _, _, _, _] _ _ _); (focus (apply Ex.cons; (case y => apply Ex.nil); (case' x => (apply Ex1.exprM; (apply EvN.m; (apply EvN.meth; exact rfl; (apply EvL.n; (apply EvL.cons; (apply Ev.name; exact rfl; exact rfl; exact rfl); apply EvL.nil; exact rfl)); exact rfl; apply Meth.append; apply OfType.list; (apply MutR.append; exact T.O; exact Nat.le_of_ble_eq_true rfl); exact rfl; exact rfl; exact Nat.le_of_ble_eq_true rfl; exact rfl; exact rfl; ((try delta autoParam); intros; rfl))); ((try delta autoParam); intros; rfl))))))
    exact .done
  (show Ex _ _ _ [_, _, _, _, _, _, _, _, _] _ _ _)
  refine Ex.share (x := "names") (Ex.share (x := "goes") (Ex.share (x := "above") ?_ (by rfl)) (by rfl)) (by rfl)
  refine Ex.weak (Ex.stop (Ex1.ret (Ev.tup (ds := [.int (c0.fmod 5), .list (sl (takeN 6 (c0.fdiv 5) pool)), .list (il ([0, 1, 2, 3, 4, 5].map (goesAt c1))), .list (il (0 :: digs c2 [1, 2, 3, 4, 5])), .int ((restO c2 [1, 2, 3, 4, 5]).fmod 6)]) T.toTab.O (by (apply EvL.cons; (apply Ev.bin; (apply Ev.b; (apply Ev.sub; (apply EvB.own; exact rfl; exact rfl; exact rfl); (apply Ev.b; apply Ev.cint); (apply SubR.list; decide; decide; exact rfl); exact rfl)); (apply Ev.b; apply Ev.cint); (apply BinR.mod_int; decide)); (apply EvL.cons; (apply Ev.name; exact rfl; exact rfl; exact rfl); (apply EvL.cons; (apply Ev.name; exact rfl; exact rfl; exact rfl); (apply EvL.cons; (apply Ev.name; exact rfl; exact rfl; exact rfl); (apply EvL.cons; (apply Ev.bin; (apply EvB.sh; exact rfl; exact rfl; exact rfl); (apply Ev.b; apply Ev.cint); (apply BinR.mod_int; decide)); apply EvL.nil; exact rfl); exact rfl); exact rfl); exact rfl); exact rfl)) (by show 5 <= sizeLine; decide))) (by simp)) (fun y s hy => by cases hy)
open PySem PySem.W PySem.Calls PyProof.Rows
variable {B : Base} {k : Nat}
noncomputable def prs (P : Str -> Str) (ks : List Str) : List (Str × Str) := ks.map fun x => (x, P x)
noncomputable def addK (ks : List Str) (x : Str) : List Str := if x ∈ ks then ks else ks ++ [x]
theorem prs_in {P : Str -> Str} {x : Str} : ∀ {ks : List Str}, x ∈ ks -> sget (prs P ks) x = some (P x)
  | z :: ks, m => by
    unfold sget prs
    rw [List.map_cons, List.find?_cons]
    by_cases e : z = x
    · subst e; simp
    · have h2 := prs_in (P := P) ((List.mem_cons.mp m).resolve_left fun q => e q.symm)
      simp only [e, decide_false]
      exact h2
theorem prs_out {P : Str -> Str} {x : Str} : ∀ {ks : List Str}, x ∉ ks -> sget (prs P ks) x = none
  | [], _ => rfl
  | z :: ks, m => by
    unfold sget prs
    rw [List.map_cons, List.find?_cons]
    have e : z ≠ x := fun q => m (q ▸ .head _)
    have h2 := prs_out (P := P) (ks := ks) fun q => m (.tail _ q)
    simp only [e, decide_false]
    exact h2
theorem dget_in {P : Str -> Str} {x : Str} {ks : List Str} (h : x ∈ ks) : dget (vals (prs P ks)) x = some (.str (P x)) := by rw [dget_vals, prs_in h]; rfl
theorem dget_out {P : Str -> Str} {x : Str} {ks : List Str} (h : x ∉ ks) : dget (vals (prs P ks)) x = none := by rw [dget_vals, prs_out h]; rfl
theorem dget_is {P : Str -> Str} {x : Str} {ks : List Str} : (dget (vals (prs P ks)) x).isSome = decide (x ∈ ks) := by
  by_cases h : x ∈ ks
  · rw [dget_in h]; simp [h]
  · rw [dget_out h]; simp [h]
theorem dput_prs {P : Str -> Str} {x : Str} {ks : List Str} : dput (vals (prs P ks)) x (.str (P x)) = vals (prs P (addK ks x)) := by
  unfold dput addK
  have e : (vals (prs P ks)).any (fun p => p.1 = x) = decide (x ∈ ks) := by
    induction ks with
    | nil => rfl
    | cons z ks ih =>
      show (decide (z = x) || (vals (prs P ks)).any fun p => p.1 = x) = _
      rw [ih]
      by_cases h : z = x
      · simp [h]
      · have h' : ¬ x = z := fun q => h q.symm
        simp [h, h']
  rw [e]
  by_cases h : x ∈ ks
  · simp only [h, decide_true, if_true]
    unfold vals prs
    rw [List.map_map, List.map_map, List.map_map]
    refine List.map_congr_left fun z _ => ?_
    by_cases e2 : z = x
    · simp [e2]
    · simp [e2]
  · simp only [h, decide_false, if_false, Bool.false_eq_true]
    unfold vals prs
    simp
theorem addK_mem {ks : List Str} {x y : Str} : y ∈ addK ks x ↔ y ∈ ks \/ y = x := by
  unfold addK
  split
  · rename_i h
    exact ⟨.inl, fun q => q.elim id fun e => e ▸ h⟩
  · simp
theorem addK_nodup {ks : List Str} {x : Str} (h : ks.Nodup) : (addK ks x).Nodup := by
  unfold addK
  split
  · exact h
  · rename_i n
    rw [List.nodup_append]
    exact ⟨h, List.pairwise_singleton _ _, fun a ha b hb e => n (by rw [List.mem_singleton] at hb; subst hb; exact e ▸ ha)⟩
theorem prs_len {P : Str -> Str} {ks : List Str} : (vals (prs P ks)).length = ks.length := by simp [vals, prs]
theorem prs_new {ks : List Str} {x : Str} (h : x ∉ ks) : addK ks x = ks ++ [x] := if_neg h
noncomputable def stepL (g : Str -> Str) (L : List Str) : List Str := L.filter fun x => (L.map g).contains x
noncomputable def iterL (g : Str -> Str) : Nat -> List Str -> List Str
  | 0, L => L
  | n + 1, L => iterL g n (stepL g L)
theorem step_sub {g : Str -> Str} {L : List Str} {x : Str} (h : x ∈ stepL g L) : x ∈ L := (List.mem_filter.mp h).1
theorem step_mem {g : Str -> Str} {L : List Str} {x : Str} : x ∈ stepL g L ↔ x ∈ L /\ ∃ y ∈ L, g y = x := by
  unfold stepL
  rw [List.mem_filter, List.contains_eq_mem, decide_eq_true_iff, List.mem_map]
theorem step_closed {g : Str -> Str} {L : List Str} (c : ∀ x ∈ L, g x ∈ L) : ∀ x ∈ stepL g L, g x ∈ stepL g L := fun x h => step_mem.mpr ⟨c x (step_sub h), x, step_sub h, rfl⟩
theorem Rising.filter {L : List Str} (h : Rising L) (p : Str -> Bool) : Rising (L.filter p) := List.Pairwise.filter _ h
theorem sortS_weak (l : List Str) : Weakly (sortS l) := (sortS_sorted l).imp fun {a b} h => by
  unfold strLe at h
  unfold ltS
  simpa using h
theorem sortS_rising {l : List Str} (h : l.Nodup) : Rising (sortS l) := by
  have h1 := sortS_sorted l
  have h2 : (sortS l).Nodup := (sortS_perm l).nodup_iff.mpr h
  refine (h1.and h2).imp fun {a b} q => ?_
  rcases ltS_tri q.2 with z | z
  · exact z
  · have q1 := q.1
    unfold strLe at q1
    unfold ltS at z
    simp only [decide_not, Bool.not_eq_true', decide_eq_false_iff_not] at q1
    exact absurd (by simpa using z) q1
theorem Rising.nodup {l : List Str} (h : Rising l) : l.Nodup := h.imp fun {a b} q => by
  rintro rfl
  rw [ltS_irrefl] at q; cases q
theorem lost_mem {L Y : List Str} {x : Str} (h : x ∈ L) : x ∈ lostS L Y ↔ x ∉ Y := by
  unfold lostS
  rw [List.mem_filter, Bool.not_eq_true', List.contains_eq_mem, decide_eq_false_iff_not]
  exact ⟨fun q => q.2, fun q => ⟨h, q⟩⟩
theorem step_is {g : Str -> Str} {L : List Str} : L.filter (fun x => decide (x ∉ lostS L (sortS (L.map g)))) = stepL g L := by
  unfold stepL
  refine List.filter_congr fun x hx => ?_
  rw [List.contains_eq_mem]
  refine decide_eq_decide.mpr ?_
  rw [lost_mem hx, Decidable.not_not, (sortS_perm (L.map g)).mem_iff]
theorem sims_str : ∀ (l : List Str) (x : Str), (sl l).all (fun z => sim z (.str x)) = true
  | [], _ => rfl
  | _ :: l, x => sims_str l x
theorem deps_str : ∀ l : List Str, deps (sl l) = 0
  | [] => rfl
  | x :: l => by
    show max 0 (deps (sl l)) = 0
    rw [deps_str l]; rfl
theorem mem_sl {x : Str} {l : List Str} : D.str x ∈ sl l ↔ x ∈ l := by simp [sl]
theorem notin_sl {l : List Str} {x : Str} : CmpR B k .NotIn (.str x) (.list (sl l)) (decide (x ∉ l)) :=
  CmpR.notin_list rfl (sims_str l x) (by rw [decide_eq_true_iff, mem_sl]) (by rw [deps_str]; decide)
theorem step_fix_iter {g : Str -> Str} {M : List Str} (h : stepL g M = M) : ∀ n, iterL g n M = M
  | 0 => rfl
  | n + 1 => by rw [iterL, h]; exact step_fix_iter h n
theorem iter_fix {g : Str -> Str} : ∀ (n : Nat) (M : List Str), M.length <= n -> stepL g (iterL g n M) = iterL g n M
  | 0, M, h => by
    have : M = [] := List.length_eq_zero_iff.mp (Nat.le_zero.mp h)
    subst this; rfl
  | n + 1, M, h => by
    have hl : (stepL g M).length <= M.length := List.length_filter_le _ _
    by_cases e : (stepL g M).length = M.length
    · have e2 : stepL g M = M := List.filter_eq_self.mpr (List.length_filter_eq_length_iff.mp e)
      rw [step_fix_iter e2, e2]
    · exact iter_fix n (stepL g M) (by omega)
noncomputable def itg (g : Str -> Str) : Nat -> Str -> Str
  | 0, x => x
  | n + 1, x => itg g n (g x)
theorem itg_succ {g : Str -> Str} : ∀ (n : Nat) (x : Str), itg g (n + 1) x = g (itg g n x)
  | 0, x => rfl
  | n + 1, x => itg_succ n (g x)
noncomputable def wayP (g : Str -> Str) (x : Str) (m : Nat) : List Str := (List.range m).map fun i => itg g i x
theorem wayP_succ {g : Str -> Str} {x : Str} {m : Nat} : wayP g x (m + 1) = wayP g x m ++ [itg g m x] := by
  unfold wayP
  rw [List.range_succ, List.map_append]; rfl
theorem wayP_len {g : Str -> Str} {x : Str} {m : Nat} : (wayP g x m).length = m := by simp [wayP]
theorem wayP_get {g : Str -> Str} {x : Str} {m j : Nat} (h : j <= m) : (sl (wayP g x m) ++ [D.str (itg g m x)])[j]? = some (.str (itg g j x)) := by
  have e : sl (wayP g x m) ++ [D.str (itg g m x)] = sl (wayP g x (m + 1)) := by rw [wayP_succ]; simp [sl]
  rw [e]
  have : j < m + 1 := by omega
  simp [sl, wayP, this]
theorem notin_prs (O : B.Ok) {P : Str -> Str} {ks : List Str} {x : Str} : CmpR B k .NotIn (.str x) (.dict (vals (prs P ks))) (decide (x ∉ ks)) := by
  have h := CmpR.notin_dict (k := k) O (l := vals (prs P ks)) (x := x)
  rw [dget_is] at h
  have e : (!decide (x ∈ ks)) = decide (x ∉ ks) := by simp
  rw [<- e]; exact h
open PySem PySem.W PySem.Calls PyProof.Rows
structure Tab7 (B : Base) : Prop extends Tab6 B where
  tree : FnAt B "_law_tree" d_law_tree_args d_law_tree_body d_law_tree_scope
variable {B : Base} {k : Nat}
noncomputable def pathOf (g P : Str -> Str) (done : List Str) : Str := match done.getLast? with
  | none => slash
  | some z => P (g z)
structure TreeOk (things : List Str) (goes : List Int) (g P : Str -> Str) (L : List Str) : Prop where
  nd : things.Nodup
  len : things.length <= 60
  glen : goes.length = things.length
  ix : ∀ k, k < things.length -> 0 <= goes.getD k 0 /\ (goes.getD k 0).toNat < things.length
  hg : ∀ k, k < things.length → getS things (goes.getD k 0) = g (things.getD k "")
  hL : iterL g things.length (sortS things) = L
  spine : ∀ done one rest, L.reverse = done ++ one :: rest -> joinS (pathOf g P done) (g one) = P (g one)
  off : ∀ x ∈ things, x ∉ L -> joinS (P (g x)) x = P x
  short : ∀ x ∈ things, x.length <= 100
  plen : ∀ x ∈ things, (P x).length <= 1000
  reach : ∀ x ∈ things, ∃ m, m <= things.length /\ itg g m x ∈ L
section
variable {things : List Str} {goes : List Int} {g P : Str -> Str} {L : List Str}
theorem TreeOk.clo (H : TreeOk things goes g P L) : ∀ x ∈ things, g x ∈ things := fun x m => by
  obtain ⟨i, hi, rfl⟩ := List.getElem_of_mem m
  have h1 := H.hg i hi
  have e : things.getD i "" = things[i] := by simp [hi]
  rw [e] at h1
  rw [<- h1]
  have h2 := (H.ix i hi).2
  unfold getS
  rw [List.getD_eq_getElem?_getD, List.getElem?_eq_getElem h2]
  exact List.getElem_mem h2
theorem iter_inv {g : Str -> Str} : ∀ (n : Nat) (M : List Str), (Rising M) -> (∀ x ∈ M, g x ∈ M) -> Rising (iterL g n M) /\ (∀ x ∈ iterL g n M, g x ∈ iterL g n M) /\ ∀ x ∈ iterL g n M, x ∈ M
  | 0, M, h1, h2 => ⟨h1, h2, fun x m => m⟩
  | n + 1, M, h1, h2 => by
    obtain ⟨a, b, c⟩ := iter_inv n (stepL g M) (h1.filter _) (step_closed h2)
    exact ⟨a, b, fun x m => step_sub (c x m)⟩
theorem TreeOk.sc (H : TreeOk things goes g P L) : ∀ x ∈ sortS things, g x ∈ sortS things := fun x m => (sortS_perm things).mem_iff.mpr (H.clo x ((sortS_perm things).mem_iff.mp m))
theorem TreeOk.inv (H : TreeOk things goes g P L) : Rising L /\ (∀ x ∈ L, g x ∈ L) /\ ∀ x ∈ L, x ∈ things := by
  obtain ⟨a, b, c⟩ := iter_inv things.length (sortS things) (sortS_rising H.nd) H.sc
  rw [H.hL] at a b c
  exact ⟨a, b, fun x m => (sortS_perm things).mem_iff.mp (c x m)⟩
theorem len_sub : ∀ {a b : List Str}, a.Nodup -> (∀ x ∈ a, x ∈ b) -> a.length <= b.length
  | [], _, _, _ => Nat.zero_le _
  | x :: a, b, ha, h => by
    have hx := h x (.head _)
    have ha' := List.pairwise_cons.mp ha
    have := len_sub (a := a) (b := b.erase x) ha'.2 fun y m => (List.mem_erase_of_ne (fun e => ha'.1 y m e.symm)).mpr (h y (.tail _ m))
    rw [List.length_erase_of_mem hx] at this
    have hp : 0 < b.length := List.length_pos_of_mem hx
    show a.length + 1 <= b.length
    omega
end
theorem prs60 {P : Str -> Str} {ks : List Str} (h : ks.length <= 60) : (vals (prs P ks)).length <= sizeLine := by rw [prs_len]; exact szz h
theorem num_cons {d : D} {ds : List D} {n : Nat} {r : List Str} (e : d :: ds = numD n (sl r)) {c : Prop} (k : ∀ x r', r = x :: r' -> d = .tup [.int (n : Nat), .str x] -> ds = numD (n + 1) (sl r') -> c) : c := by
  cases r with
  | nil => cases e
  | cons x r' => exact k x r' rfl (List.cons.inj e).1 (List.cons.inj e).2
theorem num_nil {n : Nat} {r : List Str} (e : [] = numD n (sl r)) : r = [] := by
  cases r with
  | nil => rfl
  | cons x r' => cases e
theorem runD_nil {a : Int} {j : Nat} (e : [] = runD a j) : j = 0 := by
  cases j with
  | zero => rfl
  | succ j => cases e
theorem dn_small {m : Nat} (h : m <= 60) : Builtin.Range.small ((m : Int) - 1) (-1) (-1) = true := small_dn (by omega) (by omega)
theorem sort_prs {P : Str -> Str} {ks things : List Str} (nd : ks.Nodup) (nt : things.Nodup) (ht : ∀ x ∈ ks, x ∈ things) (hd : ∀ x ∈ things, x ∈ ks) : sortS ((prs P ks).map (·.2)) = sortS (things.map P) := by
  have e : (prs P ks).map (·.2) = ks.map P := by simp [prs]
  rw [e]
  exact sortS_unique ((sortS_perm _).trans (((List.perm_ext_iff_of_nodup nd nt).mpr fun x => ⟨ht x, hd x⟩).map P)) (sortS_sorted _)
section
variable {K : Kinds} {Γ Γ' : G} {σ τ : Type}
theorem ExI.imp {ss : List Stmt} {F : σ -> G} {I J : σ -> Prop} (y : ExI B k K Γ ss F I) (h : ∀ x, I x -> J x) : ExI B k K Γ ss F J := y.elim fun x q => ⟨x, h x q.1, q.2⟩
theorem stepS {t : Expr} {body : List Stmt} {F : σ -> G} {J : List Str -> σ -> Prop} (step : ∀ d r x, J (d :: r) x -> ∃ X, Asg B k K (F x) t (.str d) X /\ ExI B k K X body F (J r)) (d : D) (ds : List D) (x : σ) (h : ∃ r, d :: ds = sl r /\ J r x) : ∃ X, Asg B k K (F x) t d X /\ ExI B k K X body F (fun x => ∃ r, ds = sl r /\ J r x) :=
  h.elim fun r q => sl_cons q.1 fun z r' e1 e2 e3 => (step z r' x (e1 ▸ q.2)).elim fun X p => ⟨X, e2 ▸ p.1, ExI.imp p.2 fun x j => ⟨r', e3, j⟩⟩
theorem Ex.forIS {fresh : Bool} {iter t : Expr} {body ss : List Stmt} {p : Pos} {l : List Str} {o : Out} (F : σ -> G) (J : List Str -> σ -> Prop) (x₀ : σ) (it : EvI B k K (F x₀) iter fresh (sl l)) (j : J l x₀) (step : ∀ d r x, J (d :: r) x -> ∃ X, Asg B k K (F x) t (.str d) X /\ ExI B k K X body F (J r))
    (y : ∀ x, J [] x -> Ex B k K (F x) ss o Γ') (ht : tgtOk fresh t = true := by rfl) (hf : ∀ env v, foldedSetIterable iter env v = pure v := by intro _ _; rfl) : Ex B k K (F x₀) (.For t iter body [] p :: ss) o Γ' :=
  Ex.forI F (fun ds x => ∃ r, ds = sl r /\ J r x) x₀ it ⟨l, rfl, j⟩ (stepS step) (fun x h => h.elim fun r q => y x (sl_nil q.1 ▸ q.2)) ht hf
end
set_option maxHeartbeats 4000000 in
theorem c_tree (T' : Tab7 B) {things : List Str} {goes : List Int} {g P : Str -> Str} {L : List Str} (H : TreeOk things goes g P L) :
    Calls B (k + 4) "_law_tree" [.list (sl things), .list (il goes)] (.tup [.list (sl (sortS (things.map P))), .str (pathOf g P L.reverse)]) := by
  have T := T'.toTab2
  have hlen := H.len
  refine byAA H.inv fun Lr Lc Lt => ?_
  refine Calls.of (o := .ret (.tup [.list (sl (sortS (things.map P))), .str (pathOf g P L.reverse)])) (xs := ["things", "goes"]) (Γ' := []) T.toTab.O T'.tree (.plain (fun _ _ _ => len2 fun _ _ => rfl)) (by simp) ?_
  refine Ex.cons (Ex1.assignF T.toTab.O (EvF.dict0 T.toTab.O) (.inr (by rfl))) ?_
  (show Ex _ _ _ [_, _, _] _ _ _)
  let G0 : List Str → G := fun ks => [("things", .sh (.list (sl things))), ("goes", .sh (.list (il goes))), ("goal", .own none (.dict (vals (prs g ks))))]
  refine Ex.forI G0 (fun ds done => ∃ rest, things = done ++ rest /\ ds = numD done.length (sl rest)) [] (EvI.enum T.toTab.O (T.toTab.blt _ _ (by rfl)) (by rfl) (EvL.cons (Ev.name (by rfl)) .nil)) ⟨things, rfl, rfl⟩ ?_ ?_
  · intro d ds done hq
    refine byEA hq fun rest e1 e2 => ?_
    refine num_cons e2 fun x rest' er ed eds => ?_
    rw [er] at e1
    have hlt := mid_lt e1
    have ex := mid_get e1
    have hgx := H.hg done.length hlt
    rw [ex] at hgx
    have h0 : (0 : Int) <= (done.length : Nat) := Int.natCast_nonneg _
    have h1 : ((done.length : Nat) : Int) < 2 ^ 63 := n63 (Nat.lt_of_lt_of_le hlt hlen)
    have hd1 : (il goes)[((done.length : Nat) : Int).toNat]? = some (.int (goes.getD done.length 0)) := il_get (i := ((done.length : Nat) : Int)) (by rw [H.glen]; exact hlt)
    refine byA (H.ix done.length hlt) fun i0 i1 => ?_
    have i2 : goes.getD done.length 0 < 2 ^ 63 := toN63 i0 i1 hlen
    have hd2 : (sl things)[(goes.getD done.length 0).toNat]? = some (.str (g x)) := by rw [sl_get i1, hgx]
    have hz : (vals (prs g done)).length <= sizeLine := prs60 (Nat.le_trans (Nat.le_of_lt hlt) hlen)
    have hnew : x ∉ done := mid_new H.nd e1
    rw [ed]
    apply turnI
    · (apply Asg.tup; exact T.O; (apply AsgL.cons; (apply Asg.name; exact T.O; decide); (apply AsgL.cons; (apply Asg.name; exact T.O; decide); apply AsgL.nil; exact rfl); exact rfl); exact rfl; exact rfl)
    · refine ExI.of (done ++ [x]) ⟨rest', mid_app e1, by rw [eds, List.length_append]; rfl⟩ ?_
      apply Ex.weak
      · (focus (apply Ex.cons; (case y => apply Ex.nil); (case' x => (apply Ex1.setItem; exact rfl; (apply Ev.sub; (apply EvB.sh; exact rfl; exact rfl; exact rfl); (apply Ev.b; (apply Ev.sub; (apply EvB.sh; exact rfl; exact rfl; exact rfl); (apply EvB.sh; exact rfl; exact rfl; exact rfl); (apply SubR.list; (with_reducible assumption); (with_reducible assumption); (with_reducible assumption)); exact rfl)); (apply SubR.list; (with_reducible assumption); (with_reducible assumption); (with_reducible assumption)); exact rfl); (apply Ev.name; exact rfl; exact rfl; exact rfl); (apply SetR.dict; exact T.O; (with_reducible assumption)); ((try delta autoParam); intros; rfl); exact rfl; exact rfl))))
      · simp only [G0]; rw [<- prs_new hnew, <- dput_prs]
        exact fun y s hy => weakApp (X := [_, _]) hy
  intro ks hq
  rw [show ks = things from byEA hq fun rest e1 e2 => mid_end (num_nil e2 ▸ e1)]
  clear hq
  have hs64 : things.length < 64 := lt64 hlen
  refine Ex.cons (Ex1.assign (EvF.ev (EvF.blt T.toTab.O (T.toTab.blt _ _ (by rfl)) (by rfl) (EvLB.cons (Ev.b (Ev.name (by rfl))) .nil) (BltF.sortedS T.toTab.O hs64))) (Asg.name T.toTab.O (.inl (by rfl)))) ?_
  (show Ex _ _ _ [_, _, _, _] _ _ _)
  let G1 : List Str → G := fun M => [("things", .sh (.list (sl things))), ("goes", .sh (.list (il goes))), ("goal", .own none (.dict (vals (prs g things)))), ("left", .sh (.list (sl M)))]
  refine Ex.pre (Γ₂ := G1 (sortS things)) ?_ (fun y s hy => weakApp (X := []) hy)
  refine Ex.forI G1 (fun ds M => iterL g ds.length M = L /\ Rising M /\ (∀ x ∈ M, g x ∈ M) /\ ∀ x ∈ M, x ∈ things) (sortS things) (EvI.list T.toTab.O (ds := sl things) (Ev.name (by rfl))) ⟨by rw [sl_len]; exact H.hL, sortS_rising H.nd, H.sc, fun x m => (sortS_perm things).mem_iff.mp m⟩ ?_ ?_
  · intro d ds M hq
    refine byAAA hq fun e1 r1 c1 t1 => ?_
    have hM : M.length <= 60 := Nat.le_trans (len_sub r1.nodup t1) hlen
    apply turnI
    · (apply Asg.name; exact T.O; decide)
    · have hin : ∀ y ∈ sortS (M.map g), y ∈ M := fun y m => (List.mem_map.mp ((sortS_perm _).mem_iff.mp m)).elim fun z q => q.2 ▸ c1 z q.1
      have hmg : (M.map g).length <= 60 := by rw [List.length_map]; exact hM
      have ca := c_sld (k := k + 1) (T'.toTab6.toTab5) r1 (sortS_weak (M.map g)) hin (le100 hM) (by rw [(sortS_perm _).length_eq]; exact le100 hmg)
      have hm64 : (M.map g).length < 64 := lt64 hmg
      have hzg : (sl (M.map g)).length <= sizeLine := sl60 hmg
      let A1 : List Str → G := fun M' => [("things", .sh (.list (sl things))), ("goes", .sh (.list (il goes))), ("goal", .own none (.dict (vals (prs g things)))), ("left", .sh (.list (sl M'))), ("turn", .sh d), ("lost", .sh (.list (sl (lostS M (sortS (M.map g)))))), ("strange", .sh (.list []))]
      refine ExI.cons (Γ₁ := A1 M) (Ex1.assign (Ev.call T.toTab.O (by rfl) ca ⟨_, _, _, T'.toTab6.toTab5.sld⟩ (.cons (Ev.name (by rfl)) (.cons (EvF.ev (EvF.blt T.toTab.O (T.toTab.blt _ _ (by rfl)) (by rfl) (EvLB.cons (Ev.b (EvF.ev (EvF.comp (cx := false) (ds := sl M) (out := sl (M.map g)) T.toTab.O (EvIB.list T.toTab.O (EvB.sh (by rfl))) (by exact ScOk.of (by rfl) (by rfl) (by rfl) (by intros; rfl) (by intros; rfl)) (by rfl) ?c hzg (by intros; rfl)))) .nil) (BltF.sortedS T.toTab.O hm64))) .nil))) ?y) ?z
      case c =>
          rw [show sl (M.map g) = M.map fun x => D.str (g x) by simp [sl]]
          refine CompR.map D.str _ M fun x m => ?_
          exact Ev.sub (EvB.own (by rfl)) (Ev.b (Ev.name (by rfl))) (SubR.dict (dget_in (t1 x m)))
      case y => (apply Asg.tup; exact T.O; (apply AsgL.cons; (apply Asg.name; exact T.O; decide); (apply AsgL.cons; (apply Asg.name; exact T.O; decide); apply AsgL.nil; exact rfl); exact rfl); exact rfl; exact rfl)
      case z =>
          have hzf : (sl (stepL g M)).length <= sizeLine := sl60 (Nat.le_trans (len_sub (r1.filter _).nodup fun x m => (step_sub m)) hM)
          have hz2 : (sl (stepL g M)).length + ([] : List D).length <= sizeLine := hzf
          refine ExI.cons (Γ₁ := [("things", .sh (.list (sl things))), ("goes", .sh (.list (il goes))), ("goal", .own none (.dict (vals (prs g things)))), ("left", .sh (.list (sl (stepL g M) ++ []))), ("turn", .sh d), ("lost", .sh (.list (sl (lostS M (sortS (M.map g)))))), ("strange", .sh (.list []))]) (Ex1.assign (EvF.ev (EvF.bin (Ev.b (EvF.ev (EvF.comp (cx := false) (ds := sl M) (out := sl (stepL g M)) T.toTab.O (EvIB.list T.toTab.O (EvB.sh (by rfl))) (by exact ScOk.of (by rfl) (by rfl) (by rfl) (by intros; rfl) (by intros; rfl)) (by rfl) ?c hzf (by intros; rfl)))) (EvB.sh (by rfl)) (BinF.add_list T.toTab.O hz2))) ?y) ?z
          case c =>
            rw [<- step_is]
            refine CompR.of D.str _ D.str M (fun x m => ?_) (fun x m _ => Ev.name (by rfl))
            exact EvIfs.one (EvT.cmp (EvB.sh (by rfl)) (EvB.sh (by rfl)) notin_sl)
          case y => (apply Asg.name; exact T.O; decide)
          case z =>
            refine ExI.nil (stepL g M) ⟨e1, r1.filter _, step_closed c1, fun x m => t1 x (step_sub m)⟩ ?_
            rw [List.append_nil]
            exact fun y s hy => weakApp (X := [_, _, _]) hy
  intro M hq
  refine byAAA hq fun e1 r1 c1 t1 => ?_
  rw [show M = L from e1]
  clear hq e1 r1 c1 t1
  refine Ex.cons (Ex1.assignF T.toTab.O (EvF.dict0 T.toTab.O) (.inl (by rfl))) ?_
  (show Ex _ _ _ [_, _, _, _, _] _ _ _)
  (focus (apply Ex.cons; (case' x => (apply Ex1.assign; apply Ev.cstr; (apply Asg.name; exact T.O; decide); exact rfl; ((try delta autoParam); intros; rfl); ((try delta autoParam); intros; rfl)))))
  have hlL : L.length <= 60 := Nat.le_trans (len_sub Lr.nodup Lt) hlen
  have hzL : (sl L).length <= sizeLine := sl60 hlL
  let G2 : List Str × List Str → G := fun q => [("things", .sh (.list (sl things))), ("goes", .sh (.list (il goes))), ("goal", .own none (.dict (vals (prs g things)))), ("left", .sh (.list (sl L))), ("places", .own none (.dict (vals (prs P q.1)))), ("path", .sh (.str (pathOf g P q.2)))]
  refine Ex.forIS G2 (fun rest q => L.reverse = q.2 ++ rest /\ q.1.Nodup /\ ∀ x, x ∈ q.1 ↔ x ∈ q.2.map g) ([], []) (l := L.reverse) (EvI.list T.toTab.O (ds := sl L.reverse) ?_) ⟨rfl, List.Pairwise.nil, fun x => Iff.rfl⟩ ?_ ?_
  · rw [show sl L.reverse = (sl L).reverse by simp [sl]]
    (apply EvF.ev; (apply EvF.rev; exact T.O; (apply EvB.sh; exact rfl; exact rfl; exact rfl); (with_reducible assumption)))
  · intro one rest ⟨ks, done⟩ hq
    refine byAA hq fun e1 nd hks => ?_
    have hone : one ∈ L := List.mem_reverse.mp (mid_mem e1)
    have hsp := H.spine done one rest e1
    have hot := Lt one hone
    have hgo := H.clo one hot
    have hdn : ∀ z ∈ done, z ∈ things := fun z m => Lt z (List.mem_reverse.mp (e1 ▸ List.mem_append_left _ m))
    have hp : (pathOf g P done).length <= 1000 := by
      unfold pathOf
      cases e : done.getLast? with
      | none => exact (by decide : slash.length <= 1000)
      | some z => exact H.plen _ (H.clo z (hdn z (List.mem_of_getLast? e)))
    have hdg : dget (vals (prs g things)) one = some (.str (g one)) := dget_in hot
    have hks60 : ks.length <= 60 := Nat.le_trans (len_sub nd fun x m => (List.mem_map.mp ((hks x).mp m)).elim fun z q => q.2 ▸ H.clo z (hdn z q.1)) hlen
    have hzk : (vals (prs P ks)).length <= sizeLine := prs60 hks60
    have hj : (pathOf g P done).length + (g one).length + 1 <= sizeLine := joinZ hp (H.short _ hgo)
    have hnew : pathOf g P (done ++ [one]) = P (g one) := by unfold pathOf; rw [List.getLast?_concat]
    apply turnI
    · (apply Asg.name; exact T.O; decide)
    · refine ExI.cons (Γ₁ := [("things", .sh (.list (sl things))), ("goes", .sh (.list (il goes))), ("goal", .own none (.dict (vals (prs g things)))), ("left", .sh (.list (sl L))), ("places", .own none (.dict (vals (prs P ks)))), ("path", .sh (.str (P (g one)))), ("one", .sh (.str one))]) ?_ ?_
      · have cj := c_join (k := k) T.toTab hj
        rw [hsp] at cj
        (apply Ex1.assign; (focus (apply Ev.call; (case hK => exact rfl); (case y => (apply EvL.cons; (apply Ev.name; exact rfl; exact rfl; exact rfl); (apply EvL.cons; (apply Ev.sub; (apply EvB.own; exact rfl; exact rfl; exact rfl); (apply EvB.sh; exact rfl; exact rfl; exact rfl); (apply SubR.dict; (with_reducible assumption)); exact rfl); apply EvL.nil; exact rfl); exact rfl)); (case O => exact T.O); (case F => exact ⟨_, _, _, T.join⟩); (case c => (with_reducible assumption)); exact rfl; exact rfl)); (apply Asg.name; exact T.O; decide); exact rfl; ((try delta autoParam); intros; rfl); ((try delta autoParam); intros; rfl))
      · refine ExI.cons (Γ₁ := [("things", .sh (.list (sl things))), ("goes", .sh (.list (il goes))), ("goal", .own none (.dict (vals (prs g things)))), ("left", .sh (.list (sl L))), ("places", .own none (.dict (dput (vals (prs P ks)) (g one) (.str (P (g one)))))), ("path", .sh (.str (P (g one)))), ("one", .sh (.str one))]) (by (apply Ex1.setItem; exact rfl; (apply Ev.name; exact rfl; exact rfl; exact rfl); (apply Ev.sub; (apply EvB.own; exact rfl; exact rfl; exact rfl); (apply EvB.sh; exact rfl; exact rfl; exact rfl); (apply SubR.dict; (with_reducible assumption)); exact rfl); (apply SetR.dict; exact T.O; (with_reducible assumption)); ((try delta autoParam); intros; rfl); exact rfl; exact rfl)) ?_
        refine ExI.nil (addK ks (g one), done ++ [one]) ⟨mid_app e1, addK_nodup nd, fun x => ?_⟩ ?_
        · rw [addK_mem, hks, List.map_append, List.mem_append, List.map_singleton, List.mem_singleton]
        · simp only [G2]; rw [dput_prs, hnew]
          exact fun y s hy => weakApp (X := [_]) hy
  intro ⟨ks₀, done⟩ hq
  refine byAA hq fun e1 nd₀ hks₀ => ?_
  have e1 : done = L.reverse := mid_end e1
  rw [e1] at hks₀
  simp only [e1]
  clear hq e1
  have kL : ∀ x ∈ L, x ∈ ks₀ := fun x m => by
    have h1 := iter_fix (g := g) things.length (sortS things) (Nat.le_of_eq (sortS_perm things).length_eq)
    rw [H.hL] at h1
    rw [<- h1] at m
    refine byA (step_mem.mp m) fun _ q => byEA q fun y my e => ?_
    rw [hks₀]
    exact List.mem_map.mpr ⟨y, List.mem_reverse.mpr my, e⟩
  have kt₀ : ∀ x ∈ ks₀, x ∈ things := fun x m => (List.mem_map.mp ((hks₀ x).mp m)).elim fun z q => q.2 ▸ H.clo z (Lt z (List.mem_reverse.mp q.1))
  let G3 : List Str → G := fun ks => [("things", .sh (.list (sl things))), ("goes", .sh (.list (il goes))), ("goal", .own none (.dict (vals (prs g things)))), ("left", .sh (.list (sl L))), ("places", .own none (.dict (vals (prs P ks)))), ("path", .sh (.str (pathOf g P L.reverse)))]
  show Ex B (k + 3) _ (G3 ks₀) _ _ _
  refine Ex.forIS G3 (fun rest ks => ∃ done, things = done ++ rest /\ ks.Nodup /\ (∀ x ∈ L, x ∈ ks) /\ (∀ x ∈ ks, x ∈ things) /\ ∀ x ∈ done, x ∈ ks) ks₀ (l := things) (EvI.list T.toTab.O (ds := sl things) (Ev.name (by rfl))) ⟨[], rfl, nd₀, kL, kt₀, fun x m => nomatch m⟩ ?_ ?_
  · intro x rest ks hq
    refine byE hq fun done hq => byAAAA hq fun e1 nd hM ht hd => ?_
    have hxt : x ∈ things := mid_mem e1
    have hxr := H.reach x hxt
    have hit : ∀ i, itg g i x ∈ things := fun i => by
      induction i with
      | zero => exact hxt
      | succ i ih => rw [itg_succ]; exact H.clo _ ih
    have hks60 : ks.length <= 60 := Nat.le_trans (len_sub nd ht) hlen
    apply turnI
    · (apply Asg.name; exact T.O; decide)
    · let G4 : Nat → G := fun m => [("things", .sh (.list (sl things))), ("goes", .sh (.list (il goes))), ("goal", .own none (.dict (vals (prs g things)))), ("left", .sh (.list (sl L))), ("places", .own none (.dict (vals (prs P ks)))), ("path", .sh (.str (pathOf g P L.reverse))), ("thing", .sh (.str x)), ("way", .own none (.list (sl (wayP g x m) ++ [.str (itg g m x)])))]
      refine ExI.cons (Γ₁ := G4 0) (by apply Ex1.assignF <;> (first | (exact T.O) | (apply EvF.list; exact T.O; (apply EvL.cons; (apply Ev.name; exact rfl; exact rfl; exact rfl); apply EvL.nil; exact rfl); exact Nat.le_of_ble_eq_true rfl) | (decide) | ((try delta autoParam); intros; rfl))) ?_
      refine ExI.forI G4 (fun ds m => m + ds.length <= things.length /\ (∀ i, i < m -> itg g i x ∉ ks) /\ (itg g m x ∈ ks \/ m + ds.length = things.length)) 0 (EvI.list T.toTab.O (ds := sl things) (Ev.name (by rfl))) ⟨by rw [sl_len, Nat.zero_add]; exact Nat.le_refl _, fun i h => absurd h (Nat.not_lt_zero _), .inr (by rw [sl_len, Nat.zero_add])⟩ ?_ ?_
      · intro d ds m hq
        refine byAA hq fun hm1 hm2 hm3 => ?_
        rw [List.length_cons] at hm1 hm3
        have hdg : dget (vals (prs g things)) (itg g m x) = some (.str (g (itg g m x))) := dget_in (hit m)
        have hzw : (sl (wayP g x m) ++ [D.str (itg g m x)]).length <= sizeLine := by rw [List.length_append, sl_len, wayP_len]; exact wz hm1 hlen
        apply turnI
        · (apply Asg.name; exact T.O; decide)
        · have en := notin_prs (k := k + 3) (P := P) (ks := ks) (x := itg g m x) T.toTab.O
          by_cases hin : itg g m x ∈ ks
          · rw [decide_eq_false (fun q => q hin)] at en
            refine ExI.of m ⟨Nat.le_of_succ_le hm1, hm2, .inl hin⟩ (Ex.weak (Ex.cons (Ex1.ife (c := false) (EvT.cmp (Ev.b (Ev.sub (EvB.own (by rfl)) (Ev.b Ev.negc) SubR.last)) (EvB.own (by rfl)) en) (fun hb => nomatch hb) (fun _ => .nil)) .nil) ?_)
            exact fun y s hy => weakApp (X := [_]) hy
          · rw [decide_eq_true hin] at en
            refine ExI.cons (Γ₁ := put (put (G4 m) "turn" (.sh d)) "way" (.own none (.list (sl (wayP g x m) ++ [.str (itg g m x)] ++ [.str (g (itg g m x))])))) (Ex1.ife (c := true) (EvT.cmp (Ev.b (Ev.sub (EvB.own (by rfl)) (Ev.b Ev.negc) SubR.last)) (EvB.own (by rfl)) en) (fun _ => ?_) (fun hb => nomatch hb)) ?_
            · refine Ex.cons ?_ .nil
              (apply Ex1.exprM; (apply EvN.m; (apply EvN.meth; exact rfl; (apply EvL.n; (apply EvL.cons; (apply Ev.sub; (apply EvB.own; exact rfl; exact rfl; exact rfl); (apply Ev.b; (apply Ev.sub; (apply EvB.own; exact rfl; exact rfl; exact rfl); (apply Ev.b; apply Ev.negc); apply SubR.last; exact rfl)); (apply SubR.dict; (with_reducible assumption)); exact rfl); apply EvL.nil; exact rfl)); exact rfl; apply Meth.append; apply OfType.list; (apply MutR.append; exact T.O; (with_reducible assumption)); exact rfl; exact rfl; exact Nat.le_of_ble_eq_true rfl; exact rfl; exact rfl; ((try delta autoParam); intros; rfl))); ((try delta autoParam); intros; rfl))
            · refine ExI.nil (m + 1) ⟨sh1 hm1, fun i hi => (Nat.lt_succ_iff_lt_or_eq.mp hi).elim (hm2 i) fun e => e ▸ hin, .inr (sh2 (hm3.resolve_left hin))⟩ ?_
              simp only [G4]; rw [wayP_succ, itg_succ, sl_app]
              exact fun y s hy => weakApp (X := [_]) hy
      · intro m hq
        refine byAA hq fun hm1 hm2 hm3 => ?_
        have hin : itg g m x ∈ ks := hm3.elim id fun q => hxr.elim fun j hj => by
          have hmj : m <= j := Nat.le_of_not_lt fun h => hm2 j h (hM _ hj.2)
          have e : j = m := Nat.le_antisymm (Nat.le_trans hj.1 (Nat.le_of_eq (Eq.symm q))) hmj
          exact e ▸ hM _ hj.2
        have hm60 : m <= 60 := Nat.le_trans (show m <= things.length from hm1) hlen
        have hzw : (sl (wayP g x m) ++ [D.str (itg g m x)]).length = m + 1 := by rw [List.length_append, sl_len, wayP_len]; rfl
        have hzl : (sl (wayP g x m) ++ [D.str (itg g m x)]).length <= sizeLine := by rw [hzw]; exact Nat.le_trans (Nat.succ_le_succ hm60) (by decide)
        let G5 : List Str → G := fun ks => [("things", .sh (.list (sl things))), ("goes", .sh (.list (il goes))), ("goal", .own none (.dict (vals (prs g things)))), ("left", .sh (.list (sl L))), ("places", .own none (.dict (vals (prs P ks)))), ("path", .sh (.str (pathOf g P L.reverse))), ("thing", .sh (.str x)), ("way", .own none (.list (sl (wayP g x m) ++ [.str (itg g m x)])))]
        show ExI B (k + 3) _ (G5 ks) _ _ _
        refine ExI.forI G5 (fun ds ks' => ∃ j a, j <= m /\ a + 1 = (j : Int) /\ ds = runD a j /\ ks'.Nodup /\ (∀ y ∈ ks, y ∈ ks') /\ (∀ y ∈ ks', y ∈ things) /\ ∀ i, j <= i -> i <= m -> itg g i x ∈ ks') ks (EvI.rangeDown T.toTab.O (a := (m : Int) - 1) (n := m) (T.toTab.blt _ _ (by rfl)) (by rfl) ?_ (Int.sub_add_cancel _ _) ?_) ⟨m, (m : Int) - 1, Nat.le_refl _, Int.sub_add_cancel _ _, rfl, nd, fun y h => h, ht, fun i h1 h2 => Nat.le_antisymm h2 h1 ▸ hin⟩ ?_ ?_
        · rw [<- mm2, <- hzw]
          (apply EvLB.cons; (apply Ev.b; (apply Ev.bin; (apply Ev.b; (apply Ev.blt; exact T.O; exact T.blt _ _ (by rfl); exact rfl; (apply EvLB.cons; (apply EvB.own; exact rfl; exact rfl; exact rfl); apply EvLB.nil; exact rfl); (apply BltR.lenList; (with_reducible assumption)); exact rfl; exact rfl; exact rfl)); (apply Ev.b; apply Ev.cint); apply BinR.sub_int)); (apply EvLB.cons; (apply Ev.b; apply Ev.negc); (apply EvLB.cons; (apply Ev.b; apply Ev.negc); apply EvLB.nil; exact rfl); exact rfl); exact rfl)
        · exact dn_small hm60
        · intro d ds ks' hq
          refine byEEAAA hq fun j a hj ha eds hq => byAAA hq fun nd' hk' ht' hj' => ?_
          cases j with
          | zero => cases eds
          | succ j =>
            rw [dn1 ha] at eds
            rw [(List.cons.inj eds).1]
            have j0 : (0 : Int) <= (j : Int) := Int.natCast_nonneg _
            have j1 : (j : Int) < 2 ^ 63 := n63 (Nat.lt_of_lt_of_le hj hm60)
            have j2 : (0 : Int) <= (j : Int) + 1 := nn1 j
            have j3 : (j : Int) + 1 < 2 ^ 63 := up63 hj hm60
            have d1 : (sl (wayP g x m) ++ [D.str (itg g m x)])[((j : Int)).toNat]? = some (.str (itg g j x)) := wayP_get (Nat.le_of_succ_le hj)
            have d2 : (sl (wayP g x m) ++ [D.str (itg g m x)])[((j : Int) + 1).toNat]? = some (.str (itg g (j + 1) x)) := by
              rw [tnS]
              exact wayP_get hj
            have d3 : dget (vals (prs P ks')) (itg g (j + 1) x) = some (.str (P (itg g (j + 1) x))) := dget_in (hj' (j + 1) (Nat.le_refl _) hj)
            have hzk : (vals (prs P ks')).length <= sizeLine := prs60 (Nat.le_trans (len_sub nd' ht') hlen)
            have hoff : joinS (P (itg g (j + 1) x)) (itg g j x) = P (itg g j x) := by
              rw [itg_succ]
              exact H.off _ (hit j) fun q => hm2 j hj (hM _ q)
            have cj := c_join (k := k) T.toTab (a := P (itg g (j + 1) x)) (b := itg g j x) (joinZ (H.plen _ (hit (j + 1))) (H.short _ (hit j)))
            rw [hoff] at cj
            apply turnI
            · (apply Asg.name; exact T.O; decide)
            · refine ExI.cons (Γ₁ := [("things", .sh (.list (sl things))), ("goes", .sh (.list (il goes))), ("goal", .own none (.dict (vals (prs g things)))), ("left", .sh (.list (sl L))), ("places", .own none (.dict (dput (vals (prs P ks')) (itg g j x) (.str (P (itg g j x)))))), ("path", .sh (.str (pathOf g P L.reverse))), ("thing", .sh (.str x)), ("way", .own none (.list (sl (wayP g x m) ++ [.str (itg g m x)]))), ("step", .sh (.int (j : Int)))]) (by (apply Ex1.setItem; exact rfl; (focus (apply Ev.call; (case hK => exact rfl); (case y => (apply EvL.cons; (apply Ev.sub; (apply EvB.own; exact rfl; exact rfl; exact rfl); (apply Ev.b; (apply Ev.sub; (apply EvB.own; exact rfl; exact rfl; exact rfl); (apply Ev.b; (apply Ev.bin; (apply EvB.sh; exact rfl; exact rfl; exact rfl); (apply Ev.b; apply Ev.cint); apply BinR.add_int)); (apply SubR.list; (with_reducible assumption); (with_reducible assumption); (with_reducible assumption)); exact rfl)); (apply SubR.dict; (with_reducible assumption)); exact rfl); (apply EvL.cons; (apply Ev.sub; (apply EvB.own; exact rfl; exact rfl; exact rfl); (apply EvB.sh; exact rfl; exact rfl; exact rfl); (apply SubR.list; (with_reducible assumption); (with_reducible assumption); (with_reducible assumption)); exact rfl); apply EvL.nil; exact rfl); exact rfl)); (case O => exact T.O); (case F => exact ⟨_, _, _, T.join⟩); (case c => (with_reducible assumption)); exact rfl; exact rfl)); (apply Ev.sub; (apply EvB.own; exact rfl; exact rfl; exact rfl); (apply EvB.sh; exact rfl; exact rfl; exact rfl); (apply SubR.list; (with_reducible assumption); (with_reducible assumption); (with_reducible assumption)); exact rfl); (apply SetR.dict; exact T.O; (with_reducible assumption)); ((try delta autoParam); intros; rfl); exact rfl; exact rfl)) ?_
              refine ExI.nil (addK ks' (itg g j x)) ⟨j, (j : Int) + -1, Nat.le_of_succ_le hj, pm1 _, (List.cons.inj eds).2, addK_nodup nd', fun y m => addK_mem.mpr (.inl (hk' y m)), fun y m => (addK_mem.mp m).elim (ht' y) fun e => e ▸ hit j, fun i h1 h2 => (Nat.eq_or_lt_of_le h1).elim (fun e => e ▸ addK_mem.mpr (.inr rfl)) fun q => addK_mem.mpr (.inl (hj' i q h2))⟩ ?_
              rw [dput_prs]
              exact fun y s hy => weakApp (X := [_]) hy
        · intro ks' hq
          refine byEEAAA hq fun j a hj ha eds hq => byAAA hq fun nd' hk' ht' hj' => ?_
          have hx : x ∈ ks' := hj' 0 (Nat.le_of_eq (runD_nil eds)) (Nat.zero_le _)
          refine ExI.nil ks' ⟨done ++ [x], mid_app e1, nd', fun y m => hk' y (hM y m), ht', fun y my => (List.mem_append.mp my).elim (fun q => hk' y (hd y q)) fun q => List.mem_singleton.mp q ▸ hx⟩ ?_
          exact fun y s hy => weakApp (X := [_, _]) hy
  · intro ks hq
    refine byE hq fun done hq => byAAAA hq fun e1 nd hM ht hd => ?_
    rw [mid_end e1] at hd
    have hk60 : ks.length <= 60 := Nat.le_trans (len_sub nd ht) hlen
    have ev : sortS ((prs P ks).map (·.2)) = sortS (things.map P) := sort_prs nd H.nd ht hd
    have hz64 : (prs P ks).length < 64 := by rw [show (prs P ks).length = ks.length by simp [prs]]; exact lt64 hk60
    rw [<- ev]
    refine Ex.weak (Ex.stop (Ex1.ret (Ev.tup (ds := [.list (sl (sortS ((prs P ks).map (·.2)))), .str (pathOf g P L.reverse)]) T.toTab.O (by (apply EvL.cons; (apply EvF.ev; (apply EvF.sortedValues; exact T.O; exact T.blt _ _ (by rfl); exact rfl; (apply EvB.own; exact rfl; exact rfl; exact rfl); (with_reducible assumption); exact rfl; ((try delta autoParam); intros; rfl))); (apply EvL.cons; (apply Ev.name; exact rfl; exact rfl; exact rfl); apply EvL.nil; exact rfl); exact rfl)) (by show 2 <= sizeLine; decide))) (by simp)) (fun y s hy => by cases hy)
open PySem PySem.W PySem.Calls PyProof.Rows
structure Tab8 (B : Base) : Prop extends Tab7 B where
  map : FnAt B "_law_map" d_law_map_args d_law_map_body d_law_map_scope
variable {B : Base} {k : Nat}
noncomputable def spineS (folders : List Str) (head : Str) : List Str := folders.filter fun p => commS [p, head] == p
noncomputable def rowS (folders : List Str) (head : Str) : List Str := ((spineS folders head).map baseS).reverse
noncomputable def restS (sp l : List Str) : List Str := l.filter fun p => decide (p ∉ sp)
noncomputable def keysS (folders : List Str) (head : Str) : List Str := sortS (rowS folders head) ++ (restS (spineS folders head) folders).map baseS
structure MapOk (folders : List Str) (head : Str) (g : Str -> Str) : Prop where
  len : folders.length <= 60
  plen : ∀ p ∈ folders, p.length <= 1000
  cp : ∀ p ∈ folders, CpOk [p, head]
  row : rowS folders head = (sortS (rowS folders head)).map g
  off : ∀ p ∈ folders, p ∉ spineS folders head -> g (baseS p) = baseS (dirS p)
  nd : (keysS folders head).Nodup
  dl : ∀ p ∈ folders, (dirS p).length <= 1000
theorem zip_self : ∀ (g : Str -> Str) (l : List Str), zipD (sl l) (sl (l.map g)) = l.map fun x => D.tup [.str x, .str (g x)]
  | _, [] => rfl
  | g, x :: l => congrArg _ (zip_self g l)
theorem rest_split {sp done rest : List Str} {p : Str} (h : p ∉ sp) : (restS sp (done ++ p :: rest)).map baseS = (restS sp done).map baseS ++ (baseS p :: (restS sp rest).map baseS) := by
  unfold restS
  rw [List.filter_append, List.filter_cons, if_pos (by simp [h]), List.map_append, List.map_cons]
theorem pz {n : Nat} (h : n <= 1000) : n <= sizeLine := Nat.le_trans h (by decide)
theorem zip_cons {g : Str -> Str} {d : D} {ds : List D} {r : List Str} (e : d :: ds = r.map fun x => D.tup [.str x, .str (g x)]) {c : Prop} (k : ∀ x r', r = x :: r' -> d = .tup [.str x, .str (g x)] -> ds = r'.map (fun x => D.tup [.str x, .str (g x)]) -> c) : c := by
  cases r with
  | nil => cases e
  | cons x r' => exact k x r' rfl (List.cons.inj e).1 (List.cons.inj e).2
theorem zip_nil {g : Str -> Str} {r : List Str} (e : [] = r.map fun x => D.tup [.str x, .str (g x)]) : r = [] := by
  cases r with
  | nil => rfl
  | cons x r' => cases e
theorem rest_snoc (sp done : List Str) (p : Str) : restS sp (done ++ [p]) = restS sp done ++ (if p ∉ sp then [p] else []) := by
  unfold restS
  rw [List.filter_append, List.filter_cons, List.filter_nil]
  simp
theorem keys60 {folders sp done rest ks row : List Str} {p : Str} (e1 : folders = done ++ p :: rest) (e3 : ks = sortS row ++ (restS sp done).map baseS) (hr : row.length <= 60) (hlen : folders.length <= 60) (g : Str -> Str) : (vals (prs g ks)).length <= sizeLine := by
  rw [prs_len, e3, List.length_append, List.length_map, (sortS_perm _).length_eq]
  have h1 : (restS sp done).length <= done.length := List.length_filter_le _ _
  have h2 := congrArg List.length e1
  rw [List.length_append] at h2
  exact Nat.le_trans (show _ <= 120 by omega) (by decide)
set_option maxHeartbeats 4000000 in
theorem c_map (T' : Tab8 B) {folders : List Str} {head : Str} {g : Str -> Str} (H : MapOk folders head g) :
    Calls B (k + 7) "_law_map" [.list (sl folders), .str head] (.dict (vals (prs g (keysS folders head)))) := by
  have T := T'.toTab2
  have hlen := H.len
  have hsp : (spineS folders head).length <= 60 := Nat.le_trans (List.length_filter_le _ _) hlen
  have hrw : (rowS folders head).length <= 60 := by unfold rowS; rw [List.length_reverse, List.length_map]; exact hsp
  have hzs : (sl (spineS folders head)).length <= sizeLine := sl60 hsp
  have hsub : ∀ p ∈ spineS folders head, p ∈ folders := fun p m => (List.mem_filter.mp m).1
  refine Calls.of (o := .ret (.dict (vals (prs g (keysS folders head))))) (xs := ["folders", "head"]) (Γ' := []) T.toTab.O T'.map (.plain (fun _ _ _ => len2 fun _ _ => rfl)) (by simp) ?_
  refine Ex.cons (Ex1.assignC (cx := false) (out := sl (spineS folders head)) T.toTab.O (EvIB.list T.toTab.O (EvB.sh (d := .list (sl folders)) (by rfl))) (by exact ScOk.of (by rfl) (by rfl) (by rfl) (by intros; rfl) (by intros; rfl)) (by rfl) ?_ hzs (.inl (by rfl)) (by intros; rfl) (fun env eo => swapsC (by rfl) (by rfl) (by rfl) env eo)) ?_
  · refine CompR.of D.str (fun p => commS [p, head] == p) D.str folders (fun p m => ?_) (fun p m _ => Ev.name (by rfl))
    have cc := fun kk => c_commonpath (k := kk) T.toTab (H.cp p m)
    exact EvIfs.one (EvT.cmp (Ev.b (Ev.call T.toTab.O (by rfl) (cc k) (by (exact ⟨_, _, _, T.commonpath⟩)) (.cons (EvF.ev (EvF.list T.toTab.O (.cons (Ev.name (by rfl)) (.cons (Ev.name (by rfl)) .nil)) (by show 2 <= sizeLine; decide))) .nil))) (EvB.sh (by rfl)) CmpR.eq_str)
  (show Ex _ _ _ [_, _, _] _ _ _)
  have hz2 : (sl ((spineS folders head).map baseS)).length <= sizeLine := sl60 (by rw [List.length_map]; exact hsp)
  refine Ex.cons (Γ₁ := [("folders", .sh (.list (sl folders))), ("head", .sh (.str head)), ("spine", .own none (.list (sl (spineS folders head)))), ("row", .sh (.list (sl (rowS folders head))))]) ?_ ?_
  · have e : sl (rowS folders head) = (sl ((spineS folders head).map baseS)).reverse := by unfold rowS; simp [sl]
    rw [e]
    refine Ex1.assign (EvF.ev (EvF.rev T.toTab.O (Ev.b (EvF.ev (EvF.comp (cx := false) (ds := sl (spineS folders head)) T.toTab.O (EvIB.list T.toTab.O (EvB.own (by rfl))) (by exact ScOk.of (by rfl) (by rfl) (by rfl) (by intros; rfl) (by intros; rfl)) (by rfl) ?_ hz2 (by intros; rfl)))) hz2)) (Asg.name T.toTab.O (.inl (by rfl)))
    have e2 : sl ((spineS folders head).map baseS) = (spineS folders head).map fun p => D.str (baseS p) := by simp [sl]
    rw [e2]
    refine CompR.map D.str _ (spineS folders head) fun p m => ?_
    have cb := fun kk => c_basename (k := kk) T.toTab (p := p) (pz (H.plen p (hsub p m)))
    exact Ev.call T.toTab.O (by rfl) (cb (k + 3)) (by (exact ⟨_, _, _, T.basename⟩)) (.cons (Ev.name (by rfl)) .nil)
  refine Ex.cons (Ex1.assignF T.toTab.O (EvF.dict0 T.toTab.O) (.inl (by rfl))) ?_
  (show Ex _ _ _ [_, _, _, _, _] _ _ _)
  have h64 : (rowS folders head).length < 64 := lt64 hrw
  let G1 : List Str → G := fun ks => [("folders", .sh (.list (sl folders))), ("head", .sh (.str head)), ("spine", .own none (.list (sl (spineS folders head)))), ("row", .sh (.list (sl (rowS folders head)))), ("goal", .own none (.dict (vals (prs g ks))))]
  have nd1 : (sortS (rowS folders head)).Nodup := (List.nodup_append.mp H.nd).1
  refine Ex.forZipI (la := sl (sortS (rowS folders head))) (lb := sl (rowS folders head)) T.toTab.O G1 (fun ds ks => ∃ rest, sortS (rowS folders head) = ks ++ rest /\ ds = rest.map fun x => D.tup [.str x, .str (g x)]) [] (T.toTab.blt _ _ (by rfl)) (by rfl) ?_ ⟨sortS (rowS folders head), rfl, ?_⟩ ?_ ?_
  · exact .cons (EvF.ev (EvF.blt T.toTab.O (T.toTab.blt _ _ (by rfl)) (by rfl) (EvLB.cons (Ev.b (Ev.name (by rfl))) .nil) (BltF.sortedS T.toTab.O h64))) (.cons (Ev.name (by rfl)) .nil)
  · have h := zip_self g (sortS (rowS folders head))
    rw [<- H.row] at h
    exact h
  · intro d ds ks hq
    refine byEA hq fun rest e1 e2 => zip_cons e2 fun x rest' er ed eds => ?_
    rw [er] at e1
    rw [ed]
    · have hnew : x ∉ ks := mid_new nd1 e1
      have hzk : (vals (prs g ks)).length <= sizeLine := prs60 (Nat.le_trans (Nat.le_of_lt (mid_lt e1)) (by rw [(sortS_perm _).length_eq]; exact hrw))
      apply turnI
      · (apply Asg.tup; exact T.O; (apply AsgL.cons; (apply Asg.name; exact T.O; decide); (apply AsgL.cons; (apply Asg.name; exact T.O; decide); apply AsgL.nil; exact rfl); exact rfl); exact rfl; exact rfl)
      · simp only [G1]
        refine ExI.cons (Γ₁ := [("folders", .sh (.list (sl folders))), ("head", .sh (.str head)), ("spine", .own none (.list (sl (spineS folders head)))), ("row", .sh (.list (sl (rowS folders head)))), ("goal", .own none (.dict (dput (vals (prs g ks)) x (.str (g x))))), ("one", .sh (.str x)), ("other", .sh (.str (g x)))]) (by (apply Ex1.setItem; exact rfl; (apply Ev.name; exact rfl; exact rfl; exact rfl); (apply Ev.name; exact rfl; exact rfl; exact rfl); (apply SetR.dict; exact T.O; (with_reducible assumption)); ((try delta autoParam); intros; rfl); exact rfl; exact rfl)) ?_
        refine ExI.nil (ks ++ [x]) ⟨rest', mid_app e1, eds⟩ ?_
        rw [dput_prs, prs_new hnew]
        exact fun y s hy => weakApp (X := [_, _]) hy
  intro ks₁ hq
  rw [show ks₁ = sortS (rowS folders head) from byEA hq fun rest e1 e2 => mid_end (zip_nil e2 ▸ e1)]
  clear hq
  refine Ex.forIS G1 (fun rest ks => ∃ done, folders = done ++ rest /\ ks = sortS (rowS folders head) ++ (restS (spineS folders head) done).map baseS) _ (l := folders) (EvI.list T.toTab.O (ds := sl folders) (Ev.name (by rfl))) ⟨[], rfl, (List.append_nil _).symm⟩ ?_ ?_
  · intro p rest ks hq
    refine byEA hq fun done e1 e3 => ?_
    · have hp : p ∈ folders := mid_mem e1
      have hin := notin_sl (B := B) (k := k + 6) (l := spineS folders head) (x := p)
      have hr := rest_snoc (spineS folders head) done p
      apply turnI
      · (apply Asg.name; exact T.O; decide)
      · by_cases hs : p ∈ spineS folders head
        · rw [decide_eq_false fun q => q hs] at hin
          rw [if_neg fun q => q hs, List.append_nil] at hr
          refine ExI.of ks ⟨done ++ [p], mid_app e1, by rw [hr]; exact e3⟩ (Ex.weak (Ex.cons (Ex1.ife (c := false) (EvT.cmp (EvB.sh (by rfl)) (EvB.own (by rfl)) hin) (fun hb => nomatch hb) (fun _ => .nil)) .nil) ?_)
          exact fun y s hy => weakApp (X := [_]) hy
        · rw [decide_eq_true hs] at hin
          rw [if_pos hs] at hr
          have hg := H.off p hp hs
          have nd := H.nd
          unfold keysS at nd
          have hsplit := rest_split (done := done) (rest := rest) hs
          rw [<- e1] at hsplit
          rw [hsplit, <- List.append_assoc, <- e3, List.nodup_append] at nd
          have hnew : baseS p ∉ ks := fun m => nd.2.2 _ m _ (.head _) rfl
          have hk60 := keys60 e1 e3 hrw hlen g
          have hb : p.length <= sizeLine := pz (H.plen p hp)
          have hd : (dirS p).length <= sizeLine := pz (H.dl p hp)
          have cb := fun kk => c_basename (k := kk) T.toTab hb
          have cd := fun kk => c_dirname (k := kk) T.toTab hb
          have cb2 := fun kk => c_basename (k := kk) T.toTab hd
          refine ExI.cons (Γ₁ := [("folders", .sh (.list (sl folders))), ("head", .sh (.str head)), ("spine", .own none (.list (sl (spineS folders head)))), ("row", .sh (.list (sl (rowS folders head)))), ("goal", .own none (.dict (dput (vals (prs g ks)) (baseS p) (.str (g (baseS p)))))), ("path", .sh (.str p))]) (Ex1.ife (c := true) (EvT.cmp (EvB.sh (by rfl)) (EvB.own (by rfl)) hin) (fun _ => ?_) (fun hb => nomatch hb)) ?_
          · simp only [G1]
            rw [hg]
            refine Ex.cons (Ex1.setItem (by rfl) (Ev.call T.toTab.O (by rfl) (cb2 (k + 3)) (by (exact ⟨_, _, _, T.basename⟩)) (.cons (Ev.call T.toTab.O (by rfl) (cd (k + 3)) (by (exact ⟨_, _, _, T.dirname⟩)) (.cons (Ev.name (by rfl)) .nil)) .nil)) (Ev.call T.toTab.O (by rfl) (cb (k + 3)) (by (exact ⟨_, _, _, T.basename⟩)) (.cons (Ev.name (by rfl)) .nil)) (SetR.dict T.toTab.O hk60)) .nil
          · refine ExI.nil (ks ++ [baseS p]) ⟨done ++ [p], mid_app e1, by rw [hr, e3, List.map_append, List.append_assoc]; rfl⟩ ?_
            rw [dput_prs, prs_new hnew]
            exact fun y s hy => weakApp (X := [_]) hy
  · intro ks hq
    rw [show ks = keysS folders head from byEA hq fun done e1 e3 => by rw [mid_end e1] at e3; exact e3]
    clear hq
    refine Ex.share (x := "goal") ?_ (by rfl)
    refine Ex.weak (Ex.stop (Ex1.ret (Ev.name (by rfl))) (by simp)) (fun y s hy => by cases hy)
open PySem PySem.W PySem.Calls PyProof.Rows
noncomputable def dueQ : Str := "_law_due" ++ ".<locals>."
noncomputable def lamPos : Pos := ⟨302, 44, 302, 61⟩
structure Tab9 (B : Base) : Prop extends Tab8 B where
  due : FnAt B "_law_due" d_law_due_args d_law_due_body d_law_due_scope
  lam : ∃ c P, FnCd B "_law_due" c ∧ LamAt B c P lamPos (dueQ ++ "<lambda>")
variable {B : Base} {k : Nat}
noncomputable def setAll : List (Int × Int) -> List Int -> List Int
  | [], l => l
  | p :: ps, l => setAll ps (l.set p.1.toNat p.2)
noncomputable def backS (told : List Str) (above sp : List Int) : List Int := setAll ((sortK (getS told) sp).zip sp) above
theorem setAll_len : ∀ (ps : List (Int × Int)) (l : List Int), (setAll ps l).length = l.length
  | [], _ => rfl
  | p :: ps, l => by rw [setAll, setAll_len ps, List.length_set]
structure DueOk (told : List Str) (above : List Int) (head : Int) (sp : List Int) (P : Str -> Str) : Prop where
  tl : told.length = 6
  nd : told.Nodup
  al : above.length = 6
  ar : ∀ k : Int, 1 <= k -> k < 6 -> 0 <= getI above k /\ getI above k < k
  hr : 0 <= head /\ head < 6
  sh : ∃ r, sp = head :: r
  up : ∀ done z rest, sp = done ++ z :: rest -> (z = 0 ↔ rest = []) /\ ∀ y r, rest = y :: r -> y = getI above z
  rng : ∀ z ∈ sp, 0 <= z /\ z < 6
  sl : sp.length <= 6
  p0 : P (getS told 0) = slash ++ getS told 0
  pk : ∀ k : Int, 1 <= k -> k < 6 -> P (getS told k) = (P (getS told (getI above k)) ++ slash) ++ getS told k
  short : ∀ x ∈ told, x.length <= 100
  plen : ∀ x ∈ told, (P x).length <= 1000
theorem getS_mem {l : List Str} {i : Int} (h : i.toNat < l.length) : getS l i ∈ l := by
  unfold getS
  rw [List.getD_eq_getElem?_getD, List.getElem?_eq_getElem h]
  exact List.getElem_mem h
theorem getS_inj {l : List Str} (nd : l.Nodup) {i j : Int} (hi : 0 <= i /\ i.toNat < l.length) (hj : 0 <= j /\ j.toNat < l.length) (e : getS l i = getS l j) : i = j := by
  unfold getS at e
  rw [List.getD_eq_getElem?_getD, List.getD_eq_getElem?_getD, List.getElem?_eq_getElem hi.2, List.getElem?_eq_getElem hj.2] at e
  have e' : l[i.toNat]'hi.2 = l[j.toNat]'hj.2 := e
  have np := List.pairwise_iff_getElem.mp nd
  rcases Nat.lt_trichotomy i.toNat j.toNat with q | q | q
  · exact absurd e' (np _ _ hi.2 hj.2 q)
  · omega
  · exact absurd e'.symm (np _ _ hj.2 hi.2 q)
theorem zip_il : ∀ (a b : List Int), zipD (il a) (il b) = (a.zip b).map fun p => D.tup [.int p.1, .int p.2]
  | [], _ => rfl
  | _ :: _, [] => rfl
  | x :: a, y :: b => congrArg _ (zip_il a b)
theorem toN {z : Int} {l : List Str} {n : Nat} (hl : l.length = n) (h0 : 0 <= z) (h : z < n) : z.toNat < l.length := by omega
theorem toNi {z : Int} {l : List Int} {n : Nat} (hl : l.length = n) (h0 : 0 <= z) (h : z < n) : z.toNat < l.length := by omega
theorem spz {w done rest : List Int} {z : Int} (e : w = done ++ z :: rest) (h : w.length <= 6) : (il done ++ [D.int z]).length <= sizeLine := by
  have := congrArg List.length e
  rw [List.length_append, List.length_cons] at this
  rw [List.length_append, il_len]
  exact szz (by show done.length + 1 <= 60; omega)
theorem il_snoc (l : List Int) (z : Int) : il (l ++ [z]) = il l ++ [.int z] := by simp [il]
theorem pathZ {a b c : Str} (ha : a.length <= 1000) (hb : b.length = 1) (hc : c.length <= 100) : a.length + b.length <= sizeLine /\ (a ++ b).length + c.length <= sizeLine := by
  have big : (100000 : Nat) <= sizeLine := by decide
  rw [str_len]; omega
theorem headZ {b c : Str} (hb : b.length = 1) (hc : c.length <= 100) : b.length + c.length <= sizeLine := by
  have big : (100000 : Nat) <= sizeLine := by decide
  omega
theorem run_cons {m : Nat} {d : D} {ds : List D} (e : d :: ds = runI (m : Int) (6 - m)) : m < 6 /\ d = .int (m : Int) /\ ds = runI ((m + 1 : Nat) : Int) (6 - (m + 1)) := by
  cases hm : 6 - m with
  | zero => rw [hm] at e; cases e
  | succ q =>
    rw [hm] at e
    refine ⟨by omega, (List.cons.inj e).1, ?_⟩
    rw [show 6 - (m + 1) = q by omega]
    exact (List.cons.inj e).2
theorem run_nil {m : Nat} (e : [] = runI (m : Int) (6 - m)) (m6 : m <= 6) : m = 6 := by
  cases hm : 6 - m with
  | zero => omega
  | succ q => rw [hm] at e; cases e
theorem take_get {told : List Str} {P : Str -> Str} {m : Nat} {z : Int} (h1 : z.toNat < m) (h2 : z.toNat < told.length) : (sl ((told.take m).map P))[z.toNat]? = some (.str (P (getS told z))) := by
  unfold getS
  simp [sl, h1, h2]
theorem map_get {told : List Str} {P : Str -> Str} {z : Int} (h2 : z.toNat < told.length) : (sl (told.map P))[z.toNat]? = some (.str (P (getS told z))) := by
  unfold getS
  simp [sl, h2]
theorem take_step {told : List Str} {P : Str -> Str} {m : Nat} (h : m < told.length) : (told.take (m + 1)).map P = (told.take m).map P ++ [P (getS told m)] := by
  rw [List.take_succ, List.getElem?_eq_getElem h, List.map_append]
  unfold getS
  simp [h]
theorem take60 {told : List Str} {P : Str -> Str} {m : Nat} (h : told.length = 6) : (sl ((told.take m).map P)).length <= sizeLine := sl60 (by rw [List.length_map, List.length_take]; omega)
theorem prs_cons {d : D} {ds : List D} {ps : List (Int × Int)} (e : d :: ds = ps.map (fun p => D.tup [.int p.1, .int p.2])) {c : Prop} (k : ∀ p ps', ps = p :: ps' -> d = .tup [.int p.1, .int p.2] -> ds = ps'.map (fun p => D.tup [.int p.1, .int p.2]) -> c) : c := by
  cases ps with
  | nil => cases e
  | cons p ps' => exact k p ps' rfl (List.cons.inj e).1 (List.cons.inj e).2
theorem prs_nil {ps : List (Int × Int)} (e : [] = ps.map (fun p => D.tup [.int p.1, .int p.2])) : ps = [] := by
  cases ps with
  | nil => rfl
  | cons p ps' => cases e
set_option maxHeartbeats 4000000 in
theorem c_due (T' : Tab9 B) {told : List Str} {above sp : List Int} {head : Int} {P : Str -> Str} (H : DueOk told above head sp P) :
    Calls B (k + 4) "_law_due" [.list (sl told), .list (il above), .int head] (.tup [.list (il (backS told above sp)), .list (sl (sortS (told.map P))), .str (P (getS told head))]) := by
  have T := T'.toTab2
  refine byEEA T'.lam fun c PP fc LA => byE H.sh fun r₀ esp => ?_
  have hspl := H.sl
  have hal := H.al
  have htl := H.tl
  refine Calls.ofE (o := .ret (.tup [.list (il (backS told above sp)), .list (sl (sortS (told.map P))), .str (P (getS told head))])) (xs := ["told", "above", "head"]) (Γ' := []) T.toTab.O T'.due fc (.plain (fun _ _ _ => len3 fun _ _ _ => rfl)) (by simp) ?_
  let G0 : List Int → G := fun w => [("told", .sh (.list (sl told))), ("above", .sh (.list (il above))), ("head", .sh (.int head)), ("spine", .own none (.list (il w)))]
  refine ExE.cons (Γ₁ := G0 [head]) (by apply Ex1.assignF <;> (first | (exact T.O) | (apply EvF.list; exact T.O; (apply EvL.cons; (apply Ev.name; exact rfl; exact rfl; exact rfl); apply EvL.nil; exact rfl); exact Nat.le_of_ble_eq_true rfl) | (decide) | ((try delta autoParam); intros; rfl))) ?_
  refine ExE.consX (Ex1.whileI G0 (fun n w => ∃ done z rest, sp = done ++ z :: rest /\ w = done ++ [z] /\ n = rest.length) r₀.length [head] ⟨[], head, r₀, esp, rfl, rfl⟩ ?_) ?_
  · intro n w hq
    refine byEE hq fun done z hq => byEAA hq fun rest e1 e2 e3 => ?_
    rw [e2]
    have hz := H.rng z (by rw [e1]; simp)
    refine byA (H.up done z rest e1) fun u1 u2 => ?_
    have hz1 : z < 2 ^ 63 := z63 hz.2
    have hz0 := hz.1
    simp only [G0]
    rw [il_snoc]
    cases rest with
    | nil =>
      refine .inl ⟨?_, e3⟩
      rw [u1.mpr rfl]
      exact EvT.cmp (Ev.b (Ev.sub (EvB.own (by rfl)) (Ev.b Ev.negc) SubR.last)) (Ev.b Ev.cint) CmpR.ne_int
    | cons y rest =>
      have hy : y = getI above z := u2 y rest rfl
      rw [hy] at e1
      have hne : (z != 0) = true := bne_iff_ne.mpr fun q => nomatch u1.mp q
      have hd : (il above)[z.toNat]? = some (.int (getI above z)) := il_get (toNi hal hz.1 hz.2)
      have hzd : (il done ++ [D.int z]).length <= sizeLine := spz e1 hspl
      refine .inr ⟨rest.length, e3, ?_, ?_⟩
      · rw [<- hne]
        exact EvT.cmp (Ev.b (Ev.sub (EvB.own (by rfl)) (Ev.b Ev.negc) SubR.last)) (Ev.b Ev.cint) CmpR.ne_int
      · refine ExI.cons (Γ₁ := [("told", .sh (.list (sl told))), ("above", .sh (.list (il above))), ("head", .sh (.int head)), ("spine", .own none (.list (il done ++ [.int z] ++ [.int (getI above z)])))]) ?_ ?_
        · exact Ex1.exprM (EvN.m (EvN.meth (by rfl) (EvL.n (EvL.cons (Ev.sub (EvB.sh (by rfl)) (Ev.b (Ev.sub (EvB.own (by rfl)) (Ev.b Ev.negc) SubR.last)) (SubR.list hz0 hz1 hd)) .nil)) (by rfl) Meth.append OfType.list (MutR.append T.toTab.O hzd)))
        refine ExI.nil (done ++ [z] ++ [getI above z]) ⟨done ++ [z], getI above z, rest, by rw [e1, List.append_assoc]; rfl, rfl, rfl⟩ ?_
        rw [il_app, il_snoc]
        exact fun y s hy => weakApp (X := []) hy
  intro w hq
  have ew : w = sp := byEE hq fun done z hq => byEAA hq fun rest e1 e2 e3 => by rw [e2, e1, List.length_eq_zero_iff.mp e3.symm]
  rw [ew]
  clear hq ew
  have hza : (il above).length <= sizeLine := il60 (by rw [hal]; decide)
  refine ExE.cons (Γ₁ := G0 sp ++ ([("goes", .own none (.list (il above)))] : G)) (by apply Ex1.assignF <;> (first | (exact T.O) | (apply EvF.blt; exact T.O; exact T.blt _ _ (by rfl); exact rfl; (apply EvLB.cons; (apply EvB.sh; exact rfl; exact rfl; exact rfl); apply EvLB.nil; exact rfl); (apply BltF.listL; exact T.O; (with_reducible assumption)); exact rfl; exact rfl; exact rfl) | (decide) | ((try delta autoParam); intros; rfl))) ?_
  refine ExE.share (x := "spine") ?_ (by rfl)
  let G1 : List Int → G := fun l => [("told", .sh (.list (sl told))), ("above", .sh (.list (il above))), ("head", .sh (.int head)), ("spine", .sh (.list (il sp))), ("goes", .own none (.list (il l)))]
  have h64 : sp.length < 64 := Nat.lt_of_le_of_lt hspl (by decide)
  have inj : ∀ x ∈ sp, ∀ y ∈ sp, getS told x = getS told y -> x = y := fun x mx y my e => getS_inj H.nd ⟨(H.rng x mx).1, toN htl (H.rng x mx).1 (H.rng x mx).2⟩ ⟨(H.rng y my).1, toN htl (H.rng y my).1 (H.rng y my).2⟩ e
  refine ExE.forZipI (la := il (sortK (getS told) sp)) (lb := il sp) T.toTab.O G1 (fun ds l => ∃ ps, ds = ps.map (fun p => D.tup [.int p.1, .int p.2]) /\ (∀ p ∈ ps, 0 <= p.1 /\ p.1 < 6) /\ l.length = 6 /\ setAll ps l = backS told above sp) above (T.toTab.blt _ _ (by rfl)) (by rfl) ?_ ⟨(sortK (getS told) sp).zip sp, ?_, fun p m => ?_, hal, rfl⟩ ?_ ?_
  · refine .two (EvE.sortedKey (k := k) (Γc := [("told", .sh (.list (sl told)))]) (x := "k") T.toTab.O (fun env h => h) LA (T.toTab.blt _ _ (by rfl)) (by rfl) (EvB.sh (by rfl)) ?_ h64 inj ?_) (.of (Ev.name (by rfl)))
    · refine ⟨rfl, rfl, rfl, by decide, rfl, fun p hp hf => ?_, fun y sl e => ?_⟩
      · rcases List.mem_cons.mp hp with rfl | hp
        · cases hf
        · rcases List.mem_cons.mp hp with rfl | hp
          · exact ⟨rfl, .inl (by rfl)⟩
          · cases hp
      · rw [List.lookup_cons] at e
        cases hy : y == ("told" : Str) with
        | false => rw [hy] at e; cases e
        | true =>
          rw [hy] at e; cases e
          obtain rfl := beq_iff_eq.mp hy
          exact ⟨rfl, rfl, .inl (by rfl)⟩
    · intro n hn
      have hr := H.rng n hn
      have hd : (sl told)[n.toNat]? = some (.str (getS told n)) := sl_get (toN htl hr.1 hr.2)
      exact Ev.sub (EvB.sh (by rfl)) (EvB.sh (by rfl)) (SubR.list hr.1 (z63 hr.2) hd)
  · exact zip_il _ _
  · exact H.rng _ ((sortK_perm _ _).mem_iff.mp (List.of_mem_zip (a := p.1) (b := p.2) m).1)
  · intro d ds l hq
    refine byEAAA hq fun ps e1 e2 e3 e4 => prs_cons e1 fun p ps' e5 e6 e7 => ?_
    rw [e5] at e2 e4
    rw [e6]
    have hp := e2 p (.head _)
    have h0 := hp.1
    have h1 : p.1 < 2 ^ 63 := z63 hp.2
    have hl : p.1.toNat < (il l).length := by rw [il_len]; exact toNi e3 hp.1 hp.2
    have hzl : (il l).length <= sizeLine := il60 (by rw [e3]; decide)
    apply turnI
    · (apply Asg.tup; exact T.O; (apply AsgL.cons; (apply Asg.name; exact T.O; decide); (apply AsgL.cons; (apply Asg.name; exact T.O; decide); apply AsgL.nil; exact rfl); exact rfl); exact rfl; exact rfl)
    · simp only [G1]
      refine ExI.cons (Γ₁ := [("told", .sh (.list (sl told))), ("above", .sh (.list (il above))), ("head", .sh (.int head)), ("spine", .sh (.list (il sp))), ("goes", .own none (.list ((il l).set p.1.toNat (.int p.2)))), ("one", .sh (.int p.1)), ("other", .sh (.int p.2))]) (by (apply Ex1.setItem; exact rfl; (apply Ev.name; exact rfl; exact rfl; exact rfl); (apply Ev.name; exact rfl; exact rfl; exact rfl); (apply SetR.listI; exact T.O; (with_reducible assumption); (with_reducible assumption); (with_reducible assumption)); ((try delta autoParam); intros; rfl); exact rfl; exact rfl)) ?_
      refine ExI.nil (l.set p.1.toNat p.2) ⟨ps', e7, fun q m => e2 q (.tail _ m), by rw [List.length_set]; exact e3, e4⟩ ?_
      rw [il_set]
      exact fun y s hy => weakApp (X := [_, _]) hy
  intro l hq
  rw [show l = backS told above sp from byEAAA hq fun ps e1 _ _ e4 => by rw [prs_nil e1] at e4; exact e4]
  clear hq
  have h00 : (sl told)[(0 : Int).toNat]? = some (.str (getS told 0)) := sl_get (toN htl (by decide) (by decide))
  have hsl : slash.length = 1 := rfl
  let G2 : Nat → G := fun m => [("told", .sh (.list (sl told))), ("above", .sh (.list (il above))), ("head", .sh (.int head)), ("spine", .sh (.list (il sp))), ("goes", .own none (.list (il (backS told above sp)))), ("paths", .own none (.list (sl ((told.take m).map P))))]
  have t1 : sl ((told.take 1).map P) = [D.str (slash ++ getS told 0)] := by
    rw [<- H.p0]
    match told, htl with
    | t :: ts, _ => rfl
  refine Ex.cons (Γ₁ := G2 1) ?_ ?_
  · simp only [G2]
    rw [t1]
    exact Ex1.assignF T.toTab.O (EvF.list T.toTab.O (.cons (Ev.bin (Ev.b Ev.cstr) (Ev.b (Ev.sub (EvB.sh (by rfl)) (Ev.b Ev.cint) (SubR.list (by decide) (by decide) h00))) (BinR.add_str (headZ hsl (H.short _ (getS_mem (toN htl (by decide) (by decide))))))) .nil) (by show 1 <= sizeLine; decide)) (.inl (by rfl))
  refine Ex.forI G2 (fun ds m => ds = runI (m : Int) (6 - m) /\ 1 <= m /\ m <= 6) 1 (EvI.range2 T.toTab.O (T.toTab.blt _ _ (by rfl)) (by rfl) (n := 5) (EvLB.cons (Ev.cint.b) (EvLB.cons (Ev.cint.b) .nil)) (by decide) (by decide)) ⟨rfl, by decide, by decide⟩ ?_ ?_
  · intro d ds m hq
    refine byAA hq fun e1 m1 m6 => byAA (run_cons e1) fun hlt ed eds => ?_
    rw [ed]
    have m0 : (0 : Int) <= (m : Int) := Int.natCast_nonneg _
    have m63 : (m : Int) < 2 ^ 63 := n63 (Nat.lt_trans hlt (by decide))
    have mi6 : (m : Int) < 6 := Int.ofNat_lt.mpr hlt
    have mi1 : (1 : Int) <= (m : Int) := Int.ofNat_le.mpr m1
    refine byA (H.ar m mi1 mi6) fun a0 a1 => ?_
    have ai6 := Int.lt_trans a1 mi6
    have a63 : getI above m < 2 ^ 63 := z63 ai6
    have hda : (il above)[((m : Int)).toNat]? = some (.int (getI above m)) := il_get (toNi hal m0 mi6)
    have hmt : ((m : Int)).toNat < told.length := toN htl m0 mi6
    have hdt : (sl told)[((m : Int)).toNat]? = some (.str (getS told m)) := sl_get hmt
    have hat : (getI above m).toNat < told.length := toN htl a0 ai6
    have hdp : (sl ((told.take m).map P))[(getI above m).toNat]? = some (.str (P (getS told (getI above m)))) := take_get ((Int.toNat_lt a0).mpr a1) hat
    refine byA (pathZ (b := slash) (H.plen _ (getS_mem hat)) hsl (H.short _ (getS_mem hmt))) fun z1 z2 => ?_
    have hzl : (sl ((told.take m).map P)).length <= sizeLine := take60 htl
    apply turnI
    · (apply Asg.name; exact T.O; decide)
    · simp only [G2]
      refine ExI.cons (Γ₁ := [("told", .sh (.list (sl told))), ("above", .sh (.list (il above))), ("head", .sh (.int head)), ("spine", .sh (.list (il sp))), ("goes", .own none (.list (il (backS told above sp)))), ("paths", .own none (.list (sl ((told.take m).map P) ++ [.str ((P (getS told (getI above m)) ++ slash) ++ getS told m)]))), ("k", .sh (.int (m : Int)))]) ?_ ?_
      · exact Ex1.exprM (EvN.m (EvN.meth (by rfl) (EvL.n (EvL.cons (Ev.bin (Ev.b (Ev.bin (Ev.b (Ev.sub (EvB.own (by rfl)) (Ev.b (Ev.sub (EvB.sh (by rfl)) (EvB.sh (by rfl)) (SubR.list m0 m63 hda))) (SubR.list a0 a63 hdp))) (Ev.b Ev.cstr) (BinR.add_str z1))) (Ev.b (Ev.sub (EvB.sh (by rfl)) (EvB.sh (by rfl)) (SubR.list m0 m63 hdt))) (BinR.add_str z2)) .nil)) (by rfl) Meth.append OfType.list (MutR.append T.toTab.O hzl)))
      · refine ExI.nil (m + 1) ⟨eds, Nat.le_add_left _ _, hlt⟩ ?_
        rw [take_step (m := m) hmt, sl_app, <- H.pk m mi1 mi6]
        exact fun y s hy => weakApp (X := [_]) hy
  · intro m hq
    rw [byAA hq fun e1 _ m6 => run_nil e1 m6]
    simp only [G2]
    rw [show told.take 6 = told from List.take_of_length_le (Nat.le_of_eq htl)]
    refine Ex.share (x := "goes") ?_ (by rfl)
    have h64p : (told.map P).length < 64 := by rw [List.length_map, htl]; decide
    have hr1 : head < 2 ^ 63 := z63 H.hr.2
    have hdh : (sl (told.map P))[head.toNat]? = some (.str (P (getS told head))) := map_get (toN htl H.hr.1 H.hr.2)
    refine Ex.weak (Ex.stop (Ex1.ret (Ev.tup (ds := [.list (il (backS told above sp)), .list (sl (sortS (told.map P))), .str (P (getS told head))]) T.toTab.O ?_ (by show 3 <= sizeLine; decide))) (by simp)) (fun y s hy => by cases hy)
    exact .cons (Ev.name (by rfl)) (.cons (EvF.ev (EvF.blt T.toTab.O (T.toTab.blt _ _ (by rfl)) (by rfl) (EvLB.cons (EvB.own (by rfl)) .nil) (BltF.sortedS T.toTab.O h64p))) (.cons (Ev.sub (EvB.own (by rfl)) (EvB.sh (by rfl)) (SubR.list H.hr.1 hr1 hdh)) .nil))
open PySem PySem.W PySem.Calls PyProof.Rows
variable {B : Base} {k : Nat}
structure LawOk (kd : Nat) (texts told : List Str) (goes above sp : List Int) (head : Int) (g P g2 P2 : Str -> Str) (L L2 : List Str) : Prop where
  kind : kd < 5
  told_ : told = texts.map (toldS kd)
  same : ∀ t, t ∈ texts -> toldS kd t = Jv.L1.esc (forms kd) t
  escok : ∀ t, t ∈ texts -> escOk (forms kd) t = true
  asc : ∀ t, t ∈ texts -> t.cps.all (· < 128) = true
  jo : ∀ t, t ∈ texts → JoinOk "" (toldRow kd t) = true
  jl : ∀ t, t ∈ texts -> (toldRow kd t).length <= sizeLine
  t1 : TreeOk told goes g P L
  m1 : MapOk (sortS (told.map P)) (pathOf g P L.reverse) g
  k1 : ∀ x, x ∈ keysS (sortS (told.map P)) (pathOf g P L.reverse) ↔ x ∈ told
  d2 : DueOk told above head sp P2
  m2 : MapOk (sortS (told.map P2)) (P2 (getS told head)) g2
  k2 : ∀ x, x ∈ keysS (sortS (told.map P2)) (P2 (getS told head)) ↔ x ∈ told
  t2 : TreeOk told (backS told above sp) g2 P2 L2
  pl : pathOf g2 P2 L2.reverse = P2 (getS told head)
theorem map_six {told : List Str} (tl : told.length = 6) : told = ([0, 1, 2, 3, 4, 5] : List Int).map (getS told) := by
  rw [show ([0, 1, 2, 3, 4, 5] : List Int) = (List.range told.length).map Int.ofNat by rw [tl]; rfl, List.map_map]
  refine List.ext_getElem (by simp) fun i h1 h2 => ?_
  simp [getS, h1]
theorem six_lt : ∀ k ∈ ([0, 1, 2, 3, 4, 5] : List Int), 0 <= k /\ k < 6 := by decide
theorem prs_idx {told : List Str} {goes : List Int} {g P : Str -> Str} {L : List Str} (H : TreeOk told goes g P L) (tl : told.length = 6) : prs g told = ([0, 1, 2, 3, 4, 5] : List Int).map fun k => (getS told k, getS told (getI goes k)) := by
  have h : ∀ n : Nat, n < 6 -> g (getS told (n : Int)) = getS told (getI goes (n : Int)) := fun n hn => (H.hg n (tl ▸ hn)).symm
  have e := map_six tl
  have e2 : prs g told = ([0, 1, 2, 3, 4, 5] : List Int).map fun k => (getS told k, g (getS told k)) := by
    unfold prs
    conv => lhs; rw [e]
    rw [List.map_map]; rfl
  rw [e2]
  refine List.map_congr_left fun k hk => ?_
  have hk' := six_lt k hk
  obtain ⟨n, rfl⟩ := Int.eq_ofNat_of_zero_le hk'.1
  rw [h n (Int.ofNat_lt.mp hk'.2)]
theorem prs_keys (g : Str -> Str) (l : List Str) : (prs g l).map (·.1) = l := by unfold prs; rw [List.map_map]; simp [Function.comp_def]
theorem ne_map (O : B.Ok) {g : Str -> Str} {ks told : List Str} (n1 : ks.Nodup) (n2 : told.Nodup) (h : ∀ x, x ∈ ks ↔ x ∈ told) : CmpR B k .NotEq (.dict (vals (prs g ks))) (.dict (vals (prs g told))) false := by
  refine CmpR.ne_vals O ?_ fun p m => ?_
  · unfold prs
    rw [List.length_map, List.length_map]
    exact ((List.perm_ext_iff_of_nodup n1 n2).mpr h).length_eq
  · obtain ⟨x, mx, rfl⟩ := List.mem_map.mp m
    exact dget_in ((h x).mp mx)
theorem sims_sl : ∀ a b : List Str, sims (sl a) (sl b) = true
  | [], [] => rfl
  | [], _ :: _ => rfl
  | _ :: _, [] => rfl
  | x :: a, y :: b => by
    show (true && sims (sl a) (sl b)) = true
    rw [sims_sl a b]; rfl
theorem eq_pair {X : List Str} {y : Str} : CmpR B k .Eq (.tup [.list (sl X), .str y]) (.tup [.list (sl X), .str y]) true := by
  refine CmpR.eq_tup ?_ (by simp) ?_
  · show (sims (sl X) (sl X) && (true && true)) = true
    rw [sims_sl]; rfl
  · show max (deps (sl X) + 1) (max 0 0) < 50
    rw [deps_str]; decide
theorem idx_of {told : List Str} {goes : List Int} {g P : Str -> Str} {L : List Str} (H : TreeOk told goes g P L) (tl : told.length = 6) {i : Int} (m : i ∈ ([0, 1, 2, 3, 4, 5] : List Int)) :
    (0 <= i /\ i < 2 ^ 63) /\ (sl told)[i.toNat]? = some (.str (getS told i)) /\ (il goes)[i.toNat]? = some (.int (getI goes i)) /\ (0 <= getI goes i /\ getI goes i < 2 ^ 63) /\ (sl told)[(getI goes i).toNat]? = some (.str (getS told (getI goes i))) := by
  have hk' := six_lt i m
  obtain ⟨n, rfl⟩ := Int.eq_ofNat_of_zero_le hk'.1
  have hn : n < told.length := tl ▸ Int.ofNat_lt.mp hk'.2
  have hx := H.ix n hn
  have h1 : 0 <= getI goes (n : Int) := hx.1
  have h2 : (getI goes (n : Int)).toNat < told.length := hx.2
  exact ⟨⟨hk'.1, z63 hk'.2⟩, sl_get hn, il_get (by rw [H.glen]; exact hn), ⟨h1, toN63 h1 h2 H.len⟩, sl_get h2⟩
set_option maxHeartbeats 4000000 in
theorem c_law (T' : Tab9 B) (FL : FnAt B "law" law_args law_body law_scope) {script : List Int} (hsl : script.length ≤ sizeLine) {kd : Nat} {texts told : List Str} {goes above sp : List Int} {head : Int} {g P g2 P2 : Str → Str} {L L2 : List Str}
    (hd : drawnD (addC 0 (script.take 60) [2415198, 8428, 442]) = .tup [.int kd, .list (sl texts), .list (il goes), .list (il above), .int head]) (H : LawOk kd texts told goes above sp head g P g2 P2 L L2) :
    Calls B (k + 8) "law" [.list (il script)] (.bool true) := by
  have T := T'.toTab2
  have tl := H.d2.tl
  have xl : texts.length = 6 := by rw [<- tl, H.told_, List.length_map]
  refine Calls.of (o := .ret (.bool true)) (xs := ["script"]) (Γ' := []) T.toTab.O FL (.plain (fun _ _ _ => len1 fun _ => rfl)) (by simp) ?_
  have cd := c_drawn (k := k + 5) T'.toTab6 hsl
  rw [hd] at cd
  let G0 : G := [("script", .sh (.list (il script))), ("kind", .sh (.int kd)), ("names", .sh (.list (sl texts))), ("goes", .sh (.list (il goes))), ("above", .sh (.list (il above))), ("head", .sh (.int head))]
  refine Ex.cons (Γ₁ := G0) ?_ ?_
  · apply Ex1.assign (d := .tup [.int kd, .list (sl texts), .list (il goes), .list (il above), .int head])
    · exact Ev.call T.toTab.O (by rfl) cd ⟨_, _, _, T'.drawn⟩ (by (apply EvL.cons; (apply Ev.name; exact rfl; exact rfl; exact rfl); apply EvL.nil; exact rfl))
    · (apply Asg.tup; exact T.O; (apply AsgL.cons; (apply Asg.name; exact T.O; decide); (apply AsgL.cons; (apply Asg.name; exact T.O; decide); (apply AsgL.cons; (apply Asg.name; exact T.O; decide); (apply AsgL.cons; (apply Asg.name; exact T.O; decide); (apply AsgL.cons; (apply Asg.name; exact T.O; decide); apply AsgL.nil; exact rfl); exact rfl); exact rfl); exact rfl); exact rfl); exact rfl; exact rfl)
    all_goals first | rfl | (intros; rfl)
  have hlt : (sl (texts.map (toldS kd))).length <= sizeLine := by rw [sl_len, List.length_map, xl]; decide
  refine Ex.cons (Γ₁ := G0 ++ ([("told", .sh (.list (sl told)))] : G)) (Ex1.assignK (EvF.ev (EvF.comp (cx := false) (ds := sl texts) (out := sl told) T.toTab.O (EvIB.list T.toTab.O (EvB.sh (by rfl))) (by exact ScOk.of (by rfl) (by rfl) (by rfl) (by intros; rfl) (by intros; rfl)) (by rfl) ?_ (H.told_ ▸ hlt) (by intros; rfl))) (Asg.name T.toTab.O (.inr (by rfl))) (noSwap (by rfl))) ?_
  · rw [H.told_]
    have e : sl (texts.map (toldS kd)) = texts.map fun t => .str (toldS kd t) := by simp [sl]
    rw [e]
    refine CompR.map D.str (fun t => .str (toldS kd t)) texts fun t m => ?_
    have cw := fun kk => c_told (k := kk) T'.toTab4 H.kind (H.asc t m) (H.jo t m) (H.jl t m)
    exact Ev.call T.toTab.O (by rfl) (cw (k + 5)) ⟨_, _, _, T'.told⟩ (by (apply EvL.cons; (apply Ev.name; exact rfl; exact rfl; exact rfl); (apply EvL.cons; (apply Ev.name; exact rfl; exact rfl; exact rfl); apply EvL.nil; exact rfl); exact rfl))
  refine Ex.cons (Γ₁ := G0 ++ ([("told", .sh (.list (sl told))), ("things", .own none (.list (sl told)))] : G)) (Ex1.assignC (cx := false) (out := sl told) T.toTab.O (EvIB.list T.toTab.O (EvB.sh (d := .list (sl texts)) (by rfl))) (by exact ScOk.of (by rfl) (by rfl) (by rfl) (by intros; rfl) (by intros; rfl)) (by rfl) ?_ (H.told_ ▸ hlt) (.inl (by rfl)) (by intros; rfl) (fun env eo => swapsC (by rfl) (by rfl) (by rfl) env eo)) ?_
  · have e : sl told = texts.map fun t => .str (Jv.L1.esc (forms kd) t) := by
      rw [H.told_]
      have : texts.map (toldS kd) = texts.map (Jv.L1.esc (forms kd)) := List.map_congr_left fun t m => H.same t m
      rw [this]; simp [sl]
    rw [e]
    refine CompR.map D.str (fun t => .str (Jv.L1.esc (forms kd) t)) texts fun t m => ?_
    have cw := fun kk => c_written (k := kk) T'.toTab3 H.kind (H.escok t m)
    exact Ev.call T.toTab.O (by rfl) (cw (k + 5)) ⟨_, _, _, T'.written⟩ (by (apply EvL.cons; (apply Ev.name; exact rfl; exact rfl; exact rfl); (apply EvL.cons; (apply Ev.name; exact rfl; exact rfl; exact rfl); apply EvL.nil; exact rfl); exact rfl))
  refine Ex.share (x := "things") ?_ (by rfl)
  have ct1 := c_tree (k := k + 3) T'.toTab7 H.t1
  let F1 := sortS (told.map P)
  let h1 := pathOf g P L.reverse
  let G1 : G := G0 ++ ([("told", .sh (.list (sl told))), ("things", .sh (.list (sl told)))] : G)
  refine Ex.cons (Γ₁ := G1 ++ ([("folders", .sh (.list (sl F1))), ("first", .sh (.str h1))] : G)) ?_ ?_
  · apply Ex1.assign (d := .tup [.list (sl F1), .str h1])
    · exact Ev.call T.toTab.O (by rfl) ct1 ⟨_, _, _, T'.tree⟩ (.cons (Ev.name (by rfl)) (.cons (Ev.name (by rfl)) .nil))
    · (apply Asg.tup; exact T.O; (apply AsgL.cons; (apply Asg.name; exact T.O; decide); (apply AsgL.cons; (apply Asg.name; exact T.O; decide); apply AsgL.nil; exact rfl); exact rfl); exact rfl; exact rfl)
    all_goals first | rfl | (intros; rfl)
  have cm1 := c_map (k := k) T'.toTab8 H.m1
  have hz6 : (prs g told).length <= sizeLine := by unfold prs; rw [List.length_map, tl]; decide
  have hz62 : (prs g2 told).length <= sizeLine := by unfold prs; rw [List.length_map, tl]; decide
  let G2 : G := G1 ++ ([("folders", .sh (.list (sl F1))), ("first", .sh (.str h1))] : G)
  refine Ex.cons (Γ₁ := G2) (Ex1.ife (c := false) (EvT.cmp (Ev.b (Ev.call T.toTab.O (by rfl) cm1 ⟨_, _, _, T'.map⟩ (.cons (Ev.name (by rfl)) (.cons (Ev.name (by rfl)) .nil)))) (Ev.b (EvF.ev (EvF.dictComp (cx := false) (ds := il [0, 1, 2, 3, 4, 5]) (out := prs g told) T.toTab.O (EvI.b (EvI.range1 T.toTab.O (T.toTab.blt _ _ (by rfl)) (by rfl) (n := 6) (EvLB.cons (Ev.cint.b) .nil) (by decide) (by decide))) (by exact ScOk.of (by rfl) (by rfl) (by rfl) (by intros; rfl) (by intros; rfl)) (by rfl) ?_ (by rw [prs_keys]; exact H.t1.nd) hz6 (by intros; rfl)))) (ne_map T.toTab.O H.m1.nd H.t1.nd H.k1)) (fun hb => nomatch hb) (fun _ => .nil)) ?_
  · rw [prs_idx H.t1 tl]
    refine CompRD.map D.int _ _ _ (fun i m => ?_) (fun i m => ?_)
    · refine byAA (idx_of H.t1 tl m) fun a d1 _ => byA a fun a0 a1 => ?_
      exact Ev.sub (EvB.sh (by rfl)) (EvB.sh (by rfl)) (SubR.list a0 a1 d1)
    · refine byAAAA (idx_of H.t1 tl m) fun a d1 d2 b d3 => byA a fun a0 a1 => byA b fun b0 b1 => ?_
      exact Ev.sub (EvB.sh (by rfl)) (Ev.b (Ev.sub (EvB.sh (by rfl)) (EvB.sh (by rfl)) (SubR.list a0 a1 d2))) (SubR.list b0 b1 d3)
  have cdu := c_due (k := k + 3) T' H.d2
  let F2 := sortS (told.map P2)
  let h2 := P2 (getS told head)
  let bk := backS told above sp
  let G3 : G := G2 ++ ([("back", .sh (.list (il bk))), ("paths", .sh (.list (sl F2))), ("place", .sh (.str h2))] : G)
  refine Ex.cons (Γ₁ := G3) ?_ ?_
  · apply Ex1.assign (d := .tup [.list (il bk), .list (sl F2), .str h2])
    · exact Ev.call T.toTab.O (by rfl) cdu ⟨_, _, _, T'.due⟩ (.cons (Ev.name (by rfl)) (.cons (Ev.name (by rfl)) (.cons (Ev.name (by rfl)) .nil)))
    · (apply Asg.tup; exact T.O; (apply AsgL.cons; (apply Asg.name; exact T.O; decide); (apply AsgL.cons; (apply Asg.name; exact T.O; decide); (apply AsgL.cons; (apply Asg.name; exact T.O; decide); apply AsgL.nil; exact rfl); exact rfl); exact rfl); exact rfl; exact rfl)
    all_goals first | rfl | (intros; rfl)
  have cm2 := c_map (k := k) T'.toTab8 H.m2
  refine Ex.cons (Γ₁ := G3) (Ex1.ife (c := false) (EvT.cmp (Ev.b (Ev.call T.toTab.O (by rfl) cm2 ⟨_, _, _, T'.map⟩ (.cons (Ev.name (by rfl)) (.cons (Ev.name (by rfl)) .nil)))) (Ev.b (EvF.ev (EvF.dictComp (cx := false) (ds := il [0, 1, 2, 3, 4, 5]) (out := prs g2 told) T.toTab.O (EvI.b (EvI.range1 T.toTab.O (T.toTab.blt _ _ (by rfl)) (by rfl) (n := 6) (EvLB.cons (Ev.cint.b) .nil) (by decide) (by decide))) (by exact ScOk.of (by rfl) (by rfl) (by rfl) (by intros; rfl) (by intros; rfl)) (by rfl) ?_ (by rw [prs_keys]; exact H.t2.nd) hz62 (by intros; rfl)))) (ne_map T.toTab.O H.m2.nd H.t2.nd H.k2)) (fun hb => nomatch hb) (fun _ => .nil)) ?_
  · rw [prs_idx H.t2 tl]
    refine CompRD.map D.int _ _ _ (fun i m => ?_) (fun i m => ?_)
    · refine byAA (idx_of H.t2 tl m) fun a d1 _ => byA a fun a0 a1 => ?_
      exact Ev.sub (EvB.sh (by rfl)) (EvB.sh (by rfl)) (SubR.list a0 a1 d1)
    · refine byAAAA (idx_of H.t2 tl m) fun a d1 d2 b d3 => byA a fun a0 a1 => byA b fun b0 b1 => ?_
      exact Ev.sub (EvB.sh (by rfl)) (Ev.b (Ev.sub (EvB.sh (by rfl)) (EvB.sh (by rfl)) (SubR.list a0 a1 d2))) (SubR.list b0 b1 d3)
  have ct2 := c_tree (k := k + 3) T'.toTab7 H.t2
  rw [H.pl] at ct2
  refine Ex.weak (Ex.stop (Ex1.ret (Ev.cmp (Ev.b (Ev.call T.toTab.O (by rfl) ct2 ⟨_, _, _, T'.tree⟩ (.cons (Ev.name (by rfl)) (.cons (Ev.name (by rfl)) .nil)))) (Ev.b (Ev.tup (ds := [.list (sl F2), .str h2]) T.toTab.O (.cons (Ev.name (by rfl)) (.cons (Ev.name (by rfl)) .nil)) (by show 2 <= sizeLine; decide))) eq_pair)) (by simp)) (fun y s hy => by cases hy)
end Jv.L1
namespace Jv.L1
open PySem PyProof.Rows PySem.Builtin PySem.Builtin.Str
noncomputable abbrev cs (x : Str) : List Nat := x.cps.toList
theorem cs_ext {x y : Str} (h : cs x = cs y) : x = y := Str.cps_inj h
theorem cs_app (x y : Str) : cs (x ++ y) = cs x ++ cs y := by
  show (x.cps ++ y.cps).toList = _
  simp
theorem slash_is : slash = ⟨#[47]⟩ := by decide
theorem cs_slash : cs slash = [47] := by decide
theorem cs_len (x : Str) : (cs x).length = x.length := by simp [cs, Str.length]
theorem cs_empty : cs ("" : Str) = [] := by decide
structure GN (s : Str) : Prop where
  ne : cs s ≠ []
  ns : 47 ∉ cs s
  nd : s ≠ curdir
noncomputable def rl : List Str -> List Nat
  | [] => []
  | c :: l => 47 :: (cs c ++ rl l)
noncomputable def rend (l : List Str) : Str := if l = [] then slash else ⟨(rl l).toArray⟩
theorem rl_app : ∀ a b : List Str, rl (a ++ b) = rl a ++ rl b
  | [], _ => rfl
  | c :: a, b => by simp [rl, rl_app a b]
theorem cs_rend {l : List Str} (h : l ≠ []) : cs (rend l) = rl l := by unfold rend; rw [if_neg h]
theorem rend_nil : rend [] = slash := rfl
theorem rl_ne {l : List Str} (h : l ≠ []) : rl l ≠ [] := by
  cases l with
  | nil => exact absurd rfl h
  | cons c l => simp [rl]
theorem join_cs : ∀ (l : List Str), l ≠ [] → cs (Str.join slash ("" :: l)) = rl l
  | [], h => absurd rfl h
  | [c], _ => by
    show cs (("" : Str) ++ slash ++ Str.join slash [c]) = _
    rw [cs_app, cs_app, cs_slash, cs_empty]
    simp [rl, Str.join]
  | c :: d :: l, _ => by
    have IH := join_cs (d :: l) (by simp)
    have e : cs (Str.join slash ("" :: d :: l)) = 47 :: cs (Str.join slash (d :: l)) := by
      show cs (("" : Str) ++ slash ++ Str.join slash (d :: l)) = _
      rw [cs_app, cs_app, cs_slash, cs_empty]; rfl
    rw [e] at IH
    show cs (("" : Str) ++ slash ++ (c ++ slash ++ Str.join slash (d :: l))) = _
    rw [cs_app, cs_app, cs_app, cs_app, cs_slash, cs_empty]
    simp only [rl]
    simp only [rl] at IH
    simp only [List.nil_append, List.cons_append, List.append_assoc, IH]
noncomputable def pieces (l : List Str) : List Str := if l = [] then ["", ""] else "" :: l
theorem rend_join (l : List Str) : rend l = Str.join slash (pieces l) := by
  unfold pieces
  by_cases h : l = []
  · subst h; decide
  · rw [if_neg h]
    exact cs_ext (by rw [join_cs l h, cs_rend h])
theorem join_inj : ∀ (a b : List Str), a ≠ [] -> b ≠ [] -> (∀ x, x ∈ a -> 47 ∉ cs x) -> (∀ x, x ∈ b -> 47 ∉ cs x) -> Str.join slash a = Str.join slash b -> a = b := by
  have free : ∀ (p q r s : List Nat), 47 ∉ p -> 47 ∉ q -> p ++ 47 :: r = q ++ 47 :: s -> p = q /\ r = s := by
    intro p
    induction p with
    | nil =>
      intro q r s _ hq e
      cases q with
      | nil => simpa using e
      | cons y q => simp at e; exact absurd e.1 (by simp at hq; exact fun h => hq.1 h)
    | cons x p IH =>
      intro q r s hp hq e
      cases q with
      | nil => simp at e; exact absurd e.1.symm (by simp at hp; exact fun h => hp.1 h)
      | cons y q =>
        simp at e hp hq
        refine byA (IH q r s hp.2 hq.2 e.2) fun h1 h2 => ?_
        exact ⟨by rw [e.1, h1], h2⟩
  intro a
  induction a with
  | nil => intro b h; exact absurd rfl h
  | cons x a IH =>
    intro b _ hb fa fb e
    cases b with
    | nil => exact absurd rfl hb
    | cons y b =>
      have fx := fa x (.head _)
      have fy := fb y (.head _)
      cases a with
      | nil =>
        cases b with
        | nil =>
          have e' : x = y := e
          rw [e']
        | cons z b =>
          have e2 : x = y ++ slash ++ Str.join slash (z :: b) := e
          have : 47 ∈ cs x := by rw [e2, cs_app, cs_app, cs_slash]; simp
          exact absurd this fx
      | cons w a =>
        cases b with
        | nil =>
          have e2 : x ++ slash ++ Str.join slash (w :: a) = y := e
          have : 47 ∈ cs y := by rw [<- e2, cs_app, cs_app, cs_slash]; simp
          exact absurd this fy
        | cons z b =>
          have e2 : x ++ slash ++ Str.join slash (w :: a) = y ++ slash ++ Str.join slash (z :: b) := e
          have e3 := congrArg cs e2
          rw [cs_app, cs_app, cs_app, cs_app, cs_slash] at e3
          simp only [List.append_assoc, List.singleton_append] at e3
          refine byA (free _ _ _ _ fx fy e3) fun h1 h2 => ?_
          rw [cs_ext h1, IH (z :: b) (by simp) (by simp) (fun v m => fa v (.tail _ m)) (fun v m => fb v (.tail _ m)) (cs_ext h2)]
theorem split_rend {l : List Str} (h : ∀ x, x ∈ l -> 47 ∉ cs x) : Txt.split (rend l) slash = pieces l := by
  have h1 := StrLaws.join_split (rend l) slash
  rw [rend_join] at h1
  have h2 : ∀ x, x ∈ Txt.split (rend l) slash -> 47 ∉ cs x := by rw [slash_is]; exact StrLaws.split_free (rend l) 47
  have h3 := split_pos (rend l) slash
  rw [<- rend_join] at h1
  refine join_inj _ _ (fun e => by rw [e] at h3; exact absurd h3 (by decide)) (by unfold pieces; split <;> simp) h2 (fun x m => ?_) (by rw [<- rend_join]; exact h1)
  unfold pieces at m
  split at m
  · simp at m; subst m; rw [cs_empty]; simp
  · rcases List.mem_cons.mp m with rfl | m
    · rw [cs_empty]; simp
    · exact h x m
theorem keep_good {c : Str} (g : GN c) : keepC c = true := by
  unfold keepC
  have h1 : c.length ≠ 0 := fun e => g.ne (by rw [<- cs_len] at e; exact List.length_eq_zero_iff.mp e)
  simp [h1, g.nd]
theorem keep_empty : keepC "" = false := by decide
theorem parts_rend {l : List Str} (h : ∀ x, x ∈ l -> GN x) : parts (rend l) = l := by
  unfold parts
  rw [split_rend fun x m => (h x m).ns]
  unfold pieces
  split
  · rename_i e; subst e; decide
  · rw [List.filter_cons_of_neg (by rw [keep_empty]; simp)]
    exact List.filter_eq_self.mpr fun x m => keep_good (h x m)
theorem rend_inj {a b : List Str} (ha : ∀ x, x ∈ a -> GN x) (hb : ∀ x, x ∈ b -> GN x) (e : rend a = rend b) : a = b := by
  rw [<- parts_rend ha, <- parts_rend hb, e]
theorem slash_join (l : List Str) : slash ++ Txt.join slash l = rend l := by
  show slash ++ glued slash l = rend l
  rw [StrLaws.glued_eq_join]
  cases l with
  | nil => decide
  | cons c l =>
    refine cs_ext ?_
    rw [cs_rend (by simp), <- join_cs (c :: l) (by simp)]
    show _ = cs (("" : Str) ++ slash ++ Str.join slash (c :: l))
    rw [cs_app, cs_app, cs_app, cs_empty]; rfl
theorem commS_rend {L : List (List Str)} (h : ∀ l, l ∈ L -> ∀ x, x ∈ l -> GN x) : commS (L.map rend) = rend (commonL L) := by
  unfold commS
  rw [slash_join, List.map_map]
  congr 1
  congr 1
  have e : ∀ l, l ∈ L -> (parts ∘ rend) l = (fun x => x) l := fun l m => parts_rend (h l m)
  rw [List.map_congr_left e, List.map_id'']
  intro _; rfl
theorem common_mem {L : List (List Str)} (h0 : L ≠ []) {a : List Str} (m : a ∈ L) (h : ∀ l, l ∈ L -> a <+: l) : commonL L = a := by
  have h1 := commonL_pre m
  have h2 := commonL_of_pre h0 h
  exact h1.eq_of_length (Nat.le_antisymm h1.length_le h2.length_le)
theorem comm_two {a b : List Str} (ha : ∀ x, x ∈ a -> GN x) (hb : ∀ x, x ∈ b -> GN x) : (commS [rend a, rend b] == rend a) = true ↔ a <+: b := by
  have e : commS [rend a, rend b] = rend (commonL [a, b]) := commS_rend (L := [a, b]) fun l m => by
    simp at m
    rcases m with rfl | rfl
    · exact ha
    · exact hb
  rw [e, beq_iff_eq]
  have hp := commonL_pre (l := [a, b]) (x := b) (by simp)
  have hp1 := commonL_pre (l := [a, b]) (x := a) (by simp)
  constructor
  · intro q
    have := rend_inj (a := commonL [a, b]) (b := a) (fun x m => ha x (hp1.subset m)) ha q
    rw [this] at hp; exact hp
  · intro q
    rw [common_mem (a := a) (by simp) (by simp) fun l m => by
      simp at m
      rcases m with rfl | rfl
      · exact List.prefix_refl _
      · exact q]
theorem starts_slash {c : Str} (h : 47 ∉ cs c) : Txt.startswith c slash = false := by
  cases e : Txt.startswith c slash
  · rfl
  · unfold Txt.startswith at e
    rw [Bool.and_eq_true] at e
    have := e.2
    rw [StrLaws.subAt_eq, beq_iff_eq] at this
    have h2 : 47 ∈ (c.cps.toList.drop 0).take slash.length := by rw [this]; show 47 ∈ cs slash; rw [cs_slash]; simp
    have h3 := List.mem_of_mem_take h2
    rw [List.drop_zero] at h3
    exact absurd h3 h
theorem rl_last : ∀ {l : List Str}, (∀ x, x ∈ l -> GN x) -> l ≠ [] -> ∃ (p : List Nat) (z : Nat), rl l = p ++ [z] /\ z ≠ 47
  | [], _, h => absurd rfl h
  | [c], h, _ => by
    have g := h c (.head _)
    refine ⟨47 :: (cs c).dropLast, (cs c).getLast g.ne, ?_, fun e => g.ns (e ▸ List.getLast_mem g.ne)⟩
    show 47 :: (cs c ++ []) = _
    rw [List.append_nil, List.cons_append, List.dropLast_concat_getLast]
  | c :: d :: l, h, _ => by
    refine byEEA (rl_last (l := d :: l) (fun x m => h x (.tail _ m)) (by simp)) fun p z e hz => ?_
    refine ⟨47 :: (cs c ++ p), z, ?_, hz⟩
    show 47 :: (cs c ++ rl (d :: l)) = _
    rw [e]; simp
theorem ends_slash {l : List Str} (h : ∀ x, x ∈ l -> GN x) (h0 : l ≠ []) : Txt.endswith (rend l) slash = false := by
  cases e : Txt.endswith (rend l) slash
  · rfl
  · unfold Txt.endswith at e
    rw [Bool.and_eq_true] at e
    have := e.2
    rw [StrLaws.subAt_eq, beq_iff_eq] at this
    refine byEEA (rl_last h h0) fun p z e2 hz => ?_
    have e3 : (rend l).cps.toList = p ++ [z] := by rw [<- e2]; exact cs_rend h0
    have e4 : (rend l).length = p.length + 1 := by rw [<- cs_len]; show (rend l).cps.toList.length = _; rw [e3]; simp
    have e5 : slash.length = 1 := rfl
    rw [e3, e4, e5] at this
    have e6 : slash.cps.toList = [47] := cs_slash
    rw [e6] at this
    simp at this
    exact absurd this hz
theorem join_rend {l : List Str} {c : Str} (h : ∀ x, x ∈ l -> GN x) (g : GN c) : joinS (rend l) c = rend (l ++ [c]) := by
  have hl : (rend l).length ≠ 0 := by
    rw [<- cs_len]
    by_cases e : l = []
    · subst e; decide
    · rw [cs_rend e]; exact fun q => rl_ne e (List.length_eq_zero_iff.mp q)
  unfold joinS
  rw [starts_slash g.ns, if_neg (by simp [hl])]
  by_cases e : l = []
  · subst e
    rw [if_pos (by decide)]
    refine cs_ext ?_
    rw [cs_app, cs_rend (l := [] ++ [c]) (by simp)]
    rw [rend_nil, cs_slash]; simp [rl]
  · rw [if_neg (by rw [ends_slash h e]; simp)]
    refine cs_ext ?_
    rw [cs_app, cs_app, cs_rend e, cs_rend (by simp), rl_app, cs_slash]; simp [rl]
theorem rl_snoc (l : List Str) (c : Str) : rl (l ++ [c]) = rl l ++ 47 :: cs c := by rw [rl_app]; simp [rl]
theorem at_iff (x : Str) (i : Nat) : StrLaws.At x slash x.length i ↔ (cs x)[i]? = some 47 := by
  unfold StrLaws.At
  rw [StrLaws.subAt_eq]
  have e5 : slash.length = 1 := rfl
  have e6 : slash.cps.toList = [47] := cs_slash
  rw [e5, e6, <- cs_len, beq_iff_eq]
  show _ /\ ((cs x).drop i).take 1 = [47] ↔ _
  constructor
  · rintro ⟨h1, h2⟩
    have h3 : i < (cs x).length := by omega
    rw [List.drop_eq_getElem_cons h3] at h2
    simp at h2
    rw [List.getElem?_eq_getElem h3]
    simpa using h2
  · intro h
    refine byE (List.getElem?_eq_some_iff.mp h) fun h3 h4 => ?_
    refine ⟨by omega, ?_⟩
    rw [List.drop_eq_getElem_cons h3, h4]; rfl
theorem rfind_at {x : Str} {p q : List Nat} (e : cs x = p ++ 47 :: q) (h : 47 ∉ q) : Txt.rfind x slash = p.length := by
  have hp : (cs x)[p.length]? = some 47 := by rw [e]; simp
  have hq : ∀ k, p.length < k -> (cs x)[k]? ≠ some 47 := fun k hk q' => by
    rw [e, List.getElem?_append_right (by omega)] at q'
    obtain ⟨m, hm⟩ : ∃ m, k - p.length = m + 1 := ⟨k - p.length - 1, by omega⟩
    rw [hm, List.getElem?_cons_succ] at q'
    exact h (List.mem_of_getElem? q')
  unfold Txt.rfind
  rcases StrLaws.last_spec x slash with ⟨_, h2⟩ | ⟨i, h1, h2, h3⟩
  · exact absurd ((at_iff x _).mpr hp) (h2 _)
  · rw [h1]
    have h2' := (at_iff x i).mp h2
    show ((i : Nat) : Int) = p.length
    by_cases hlt : p.length < i
    · exact absurd h2' (hq i hlt)
    · by_cases hgt : i < p.length
      · exact absurd ((at_iff x _).mpr hp) (h3 _ hgt)
      · congr 1; omega
theorem cut_drop {α : Type} (l : List α) {n : Nat} (h : n <= l.length) : cut l (some (n : Int)) none = l.drop n := by
  unfold cut clip
  simp only
  rw [if_neg (by omega), List.take_length]
  congr 1; omega
theorem head_at {x : Str} {p q : List Nat} (e : cs x = p ++ 47 :: q) (h : 47 ∉ q) : headI x = ((p.length + 1 : Nat) : Int) := by
  unfold headI; rw [rfind_at e h]; rfl
theorem base_at {x : Str} {p : List Nat} {c : Str} (e : cs x = p ++ 47 :: cs c) (h : 47 ∉ cs c) : baseS x = c := by
  refine cs_ext ?_
  unfold baseS cutS
  rw [head_at e h]
  show cut (cs x) _ _ = _
  rw [cut_drop _ (by rw [e]; simp), e]
  rw [show p ++ 47 :: cs c = (p ++ [47]) ++ cs c by simp, List.drop_left' (by simp)]
theorem hd_at {x : Str} {p : List Nat} {c : Str} (e : cs x = p ++ 47 :: cs c) (h : 47 ∉ cs c) : cs (hd x) = p ++ [47] := by
  unfold hd cutS
  rw [head_at e h]
  show cut (cs x) _ _ = _
  rw [cut_take _ (by rw [e]; simp), e]
  rw [show p ++ 47 :: cs c = (p ++ [47]) ++ cs c by simp, List.take_left' (by simp)]
theorem rstrip_at {x : Str} {p : List Nat} {z : Nat} (e : cs x = p ++ [z] ++ [47]) (h : z ≠ 47) : cs (Txt.rstripChars x slash) = p ++ [z] := by
  unfold Txt.rstripChars
  rw [stripBy_eq]
  show (strSub _ _ _).cps.toList = _
  rw [StrLaws.strSub_toList]
  have e1 : stripLo (fun c => slash.cps.contains c) false x = 0 := rfl
  have hc : ∀ c, slash.cps.contains c = decide (c = 47) := fun c => by
    rw [slash_is]; simp
  have e2 : stripHi slash.cps.contains true x (stripLo slash.cps.contains false x) = x.length - 1 := by
    show (if true = true then x.length - ((x.cps.toList.drop 0).reverse.takeWhile slash.cps.contains).length else x.length) = _
    rw [if_pos rfl, List.drop_zero]
    show x.length - ((cs x).reverse.takeWhile slash.cps.contains).length = _
    rw [e]
    have ef : slash.cps.contains = fun c => decide (c = 47) := funext hc
    rw [ef]
    simp [h]
  rw [e2]
  have e3 : stripLo slash.cps.contains false x = 0 := rfl
  rw [e3, List.drop_zero]
  show (cs x).take (x.length - 1 - 0) = _
  rw [<- cs_len, e, List.take_left' (by simp)]
theorem base_rend {l : List Str} {c : Str} (g : GN c) : baseS (rend (l ++ [c])) = c := base_at (p := rl l) (by rw [cs_rend (by simp), rl_snoc]) g.ns
theorem dir_rend {l : List Str} {c : Str} (h : ∀ x, x ∈ l -> GN x) (g : GN c) : dirS (rend (l ++ [c])) = rend l := by
  have e := hd_at (x := rend (l ++ [c])) (p := rl l) (c := c) (by rw [cs_rend (by simp), rl_snoc]) g.ns
  unfold dirS
  by_cases h0 : l = []
  · subst h0
    have e1 : hd (rend ([] ++ [c])) = slash := cs_ext (by rw [e, cs_slash]; rfl)
    rw [e1]
    decide
  · refine byEEA (rl_last h h0) fun p z e2 hz => ?_
    rw [e2] at e
    have hne : (hd (rend (l ++ [c])) != Txt.mul slash ((hd (rend (l ++ [c]))).length : Nat)) = true := by
      rw [bne_iff_ne]
      intro q
      have h1 : ∀ n : Nat, ∀ v, v ∈ cs (Txt.mul slash n) -> v = 47 := by
        intro n v hv
        unfold Txt.mul at hv
        split at hv
        · exact absurd hv (by show v ∉ cs Str.empty; simp [cs, Str.empty])
        · split at hv
          · rw [cs_slash] at hv; simpa using hv
          · have h2 : ∀ (k : Nat) (a : Array Nat), (∀ v ∈ a.toList, v = 47) -> ∀ v ∈ ((List.replicate k slash.cps).foldl (· ++ ·) a).toList, v = 47 := by
              intro k
              induction k with
              | zero => intro a ha; simpa using ha
              | succ k IH =>
                intro a ha
                rw [List.replicate_succ, List.foldl_cons]
                refine IH _ fun v hv => ?_
                rw [Array.toList_append] at hv
                rcases List.mem_append.mp hv with hv | hv
                · exact ha v hv
                · have : v ∈ cs slash := hv
                  rw [cs_slash] at this; simpa using this
            exact h2 _ #[] (by simp) v hv
      have h2 := h1 _ z (by rw [<- q, e]; simp)
      exact hz h2
    have hl : ((hd (rend (l ++ [c]))).length != 0) = true := by
      rw [<- cs_len, e]; simp
    rw [if_pos (by rw [hl, hne]; rfl)]
    refine cs_ext ?_
    rw [rstrip_at e hz, cs_rend h0, e2]
end Jv.L1
namespace Jv.L1
open PySem PyProof.Rows PySem.Builtin PySem.Builtin.Str
structure Path (l : List Str) : Prop where
  gn : ∀ x, x ∈ l -> GN x
  short : ∀ x, x ∈ l -> x.length <= 100
  len : l.length <= 6
theorem rl_len : ∀ {l : List Str}, (∀ x, x ∈ l -> x.length <= 100) -> (rl l).length <= 101 * l.length
  | [], _ => by simp [rl]
  | c :: l, h => by
    have IH := rl_len (l := l) fun x m => h x (.tail _ m)
    have := h c (.head _)
    simp only [rl, List.length_cons, List.length_append, cs_len]
    omega
theorem Path.rlen {l : List Str} (p : Path l) : (rend l).length <= 650 := by
  rw [<- cs_len]
  by_cases h : l = []
  · subst h; decide
  · rw [cs_rend h]
    have := rl_len p.short
    have := p.len
    omega
theorem rend_abs (l : List Str) : Txt.startswith (rend l) slash = true := by
  have e : ∃ q, cs (rend l) = 47 :: q := by
    cases l with
    | nil => exact ⟨[], cs_slash⟩
    | cons c l => exact ⟨_, cs_rend (by simp)⟩
  refine byE (e) fun q e => ?_
  unfold Txt.startswith
  have e5 : slash.length = 1 := rfl
  have e6 : slash.cps.toList = [47] := cs_slash
  rw [StrLaws.subAt_eq, e5, e6, <- cs_len, e]
  show (_ && ((cs (rend l)).drop 0).take 1 == [47]) = true
  rw [e]; simp
theorem pieces_len (x : Str) (cuts : List Nat) (n : Nat) : (partsBetween x cuts n).length = cuts.length + 1 := by
  unfold partsBetween
  simp
theorem cpok {L : List (List Str)} (h0 : L ≠ []) (hl : L.length <= 1000) (h : ∀ l, l ∈ L -> Path l) : CpOk (L.map rend) := by
  have big : (100000 : Nat) <= sizeLine := by decide
  have hp : ∀ p, p ∈ L.map rend -> ∃ l, l ∈ L /\ Path l /\ p = rend l := fun p m => by
    (refine byEA (List.mem_map.mp m) fun l ml hq1 => ?_; subst hq1)
    exact ⟨l, ml, h l ml, rfl⟩
  refine byE (List.exists_mem_of_ne_nil L h0) fun l₀ m₀ => ?_
  have e : (L.map rend).map parts = L := by
    rw [List.map_map]
    have e : ∀ l, l ∈ L -> (parts ∘ rend) l = (fun x => x) l := fun l m => parts_rend (h l m).gn
    rw [List.map_congr_left e, List.map_id'']
    intro _; rfl
  have hc := commonL_pre m₀
  have pc : Path (commonL L) := ⟨fun x m => (h l₀ m₀).gn x (hc.subset m), fun x m => (h l₀ m₀).short x (hc.subset m), Nat.le_trans hc.length_le (h l₀ m₀).len⟩
  refine ⟨by simpa using h0, by simpa using hl, fun p m => ?_, fun p m => ?_, fun p m => ?_, fun p m => ?_, fun p m => ?_, ?_, ?_⟩
  · (refine byEAA (hp p m) fun l _ _ hq2 => ?_; subst hq2); exact rend_abs l
  · (refine byEAA (hp p m) fun l _ pl hq3 => ?_; subst hq3); have := pl.rlen; omega
  · (refine byEAA (hp p m) fun l _ pl hq4 => ?_; subst hq4)
    rw [pieces_len]
    have := StrLaws.occ_length_le (rend l) slash 0 (rend l).length ((rend l).length + 1)
    have := pl.rlen; omega
  · (refine byEAA (hp p m) fun l _ pl hq5 => ?_; subst hq5)
    have := split_le (rend l) slash
    have := pl.rlen; omega
  · (refine byEAA (hp p m) fun l _ pl hq6 => ?_; subst hq6)
    intro c mc
    rw [split_rend fun x m => (pl.gn x m).ns] at mc
    unfold pieces at mc
    split at mc
    · simp at mc; subst mc; decide
    · rcases List.mem_cons.mp mc with rfl | mc
      · decide
      · have := pl.short c mc; omega
  · rw [e]
    unfold JoinOk
    have hs : (commonL L).map (·.length) = (commonL L).map (·.length) := rfl
    have e1 := StrLaws.joinTotal slash (commonL L)
    rw [show (commonL L).toArray.foldl (fun x1 x2 => x1 + x2.length + slash.length) 0 = _ from e1]
    have h2 := StrLaws.sumLen_le (B := 100) (commonL L) pc.short
    have h3 := pc.len
    have e5 : slash.length = 1 := rfl
    rw [e5]
    unfold tooLong
    simp
    omega
  · rw [e]
    have := congrArg Str.length (slash_join (commonL L))
    rw [str_len] at this
    have e5 : slash.length = 1 := rfl
    have := pc.rlen
    omega
end Jv.L1
namespace Jv.L1
open PySem PySem.W PySem.Calls PyProof.Rows PySem.Builtin PySem.Builtin.Str
theorem fmodR (a : Int) {b : Int} (h : 0 < b) : 0 <= a.fmod b /\ a.fmod b < b := ⟨fmodNN a h, Int.fmod_lt_of_pos a h⟩
theorem digs_len : ∀ (l : List Int) (r : Int), (digs r l).length = l.length
  | [], _ => rfl
  | k :: l, r => by simp [digs, digs_len l]
noncomputable def gnB (s : Str) : Bool := !(cs s).isEmpty && !((cs s).contains 47) && s != curdir
theorem gn_of {s : Str} (h : gnB s = true) : GN s := by
  unfold gnB at h
  simp only [Bool.and_eq_true, Bool.not_eq_true', bne_iff_ne] at h
  refine ⟨fun e => ?_, fun e => ?_, h.2⟩
  · rw [e] at h; simp at h
  · have := h.1.2
    rw [List.contains_iff_mem.mpr e] at this; cases this
noncomputable def okText (n : Nat) (t : Str) : Bool := gnB (esc (forms n) t) && (toldS n t == esc (forms n) t) && escOk (forms n) t && t.cps.all (· < 128) && JoinOk "" (toldRow n t) && decide ((toldRow n t).length ≤ 100) && decide ((esc (forms n) t).length ≤ 100)
theorem ok0 : pool.all (okText 0) = true := by decide +kernel
theorem ok1 : pool.all (okText 1) = true := by decide +kernel
theorem ok2 : pool.all (okText 2) = true := by decide +kernel
theorem ok3 : pool.all (okText 3) = true := by decide +kernel
theorem ok4 : pool.all (okText 4) = true := by decide +kernel
theorem un0 : (pool.map (esc (forms 0))).Nodup := by decide +kernel
theorem un1 : (pool.map (esc (forms 1))).Nodup := by decide +kernel
theorem un2 : (pool.map (esc (forms 2))).Nodup := by decide +kernel
theorem un3 : (pool.map (esc (forms 3))).Nodup := by decide +kernel
theorem un4 : (pool.map (esc (forms 4))).Nodup := by decide +kernel
theorem ok_all {n : Nat} (h : n < 5) {t : Str} (m : t ∈ pool) : okText n t = true := by
  match n, h with
  | 0, _ => exact List.all_eq_true.mp ok0 t m
  | 1, _ => exact List.all_eq_true.mp ok1 t m
  | 2, _ => exact List.all_eq_true.mp ok2 t m
  | 3, _ => exact List.all_eq_true.mp ok3 t m
  | 4, _ => exact List.all_eq_true.mp ok4 t m
theorem un_all {n : Nat} (h : n < 5) : (pool.map (esc (forms n))).Nodup := by
  match n, h with
  | 0, _ => exact un0
  | 1, _ => exact un1
  | 2, _ => exact un2
  | 3, _ => exact un3
  | 4, _ => exact un4
theorem ok_parts {n : Nat} {t : Str} (h : okText n t = true) : GN (esc (forms n) t) ∧ toldS n t = esc (forms n) t ∧ escOk (forms n) t = true ∧ t.cps.all (· < 128) = true ∧ JoinOk "" (toldRow n t) = true ∧ (toldRow n t).length ≤ 100 ∧ (esc (forms n) t).length ≤ 100 := by
  unfold okText at h
  simp only [Bool.and_eq_true, decide_eq_true_eq, beq_iff_eq] at h
  (refine byA (h) fun hp1 h7 => ?_; (try clear h); obtain ⟨⟨⟨⟨⟨h1, h2⟩, h3⟩, h4⟩, h5⟩, h6⟩ := hp1)
  exact ⟨gn_of h1, h2, h3, h4, h5, h6, h7⟩
end Jv.L1
namespace Jv.L1
open PySem PySem.W PySem.Calls PyProof.Rows PySem.Builtin PySem.Builtin.Str
structure Laid (T : List Str) (pth : Str -> List Str) (g : Str -> Str) (h : Str) : Prop where
  nd : T.Nodup
  tl : T.length = 6
  gn : ∀ x ∈ T, GN x
  short : ∀ x ∈ T, x.length <= 100
  hT : h ∈ T
  top : ∃ a, pth h = a ++ [h]
  snd : (pth h).Nodup
  sub : ∀ x ∈ T, ∀ y ∈ pth x, y ∈ T
  len : ∀ x ∈ T, (pth x).length <= 6
  pre : ∀ a y b, pth h = a ++ y :: b -> pth y = a ++ [y]
  off : ∀ x ∈ T, x ∉ pth h -> g x ∈ T /\ pth x = pth (g x) ++ [x]
theorem strLe_of_lt {a b : Str} (h : ltS a b = true) : strLe a b = true := by
  have := ltS_asymm h
  unfold ltS at this
  unfold strLe
  simpa using this
theorem eq_rising {a b : List Str} (ha : Rising a) (hb : Rising b) (h : ∀ x, x ∈ a ↔ x ∈ b) : a = b := by
  have p := (List.perm_ext_iff_of_nodup ha.nodup hb.nodup).mpr h
  rw [sortS_unique p (ha.imp strLe_of_lt), <- sortS_unique (.refl b) (hb.imp strLe_of_lt)]
theorem lt_app {p q : List Nat} (h : q ≠ []) : p < p ++ q := by
  induction p with
  | nil =>
    cases q with
    | nil => exact absurd rfl h
    | cons x q => exact List.nil_lt_cons x q
  | cons x p ih => exact List.cons_lt_cons_iff.mpr (.inr ⟨rfl, ih⟩)
theorem lt_rend {a b : List Str} (ha : a ≠ []) (hb : b ≠ []) : ltS (rend a) (rend (a ++ b)) = true := by
  unfold ltS
  rw [decide_eq_true_iff]
  show cs (rend a) < cs (rend (a ++ b))
  rw [cs_rend ha, cs_rend (by simp [ha]), rl_app]
  exact lt_app (rl_ne hb)
theorem rend_snoc {l : List Str} {c : Str} (h : l ≠ []) : rend (l ++ [c]) = (rend l ++ slash) ++ c := by
  refine cs_ext ?_
  rw [cs_app, cs_app, cs_rend h, cs_rend (by simp), rl_app, cs_slash]
  simp [rl]
theorem rend_one (c : Str) : rend [c] = slash ++ c := by
  refine cs_ext ?_
  rw [cs_app, cs_rend (by simp), cs_slash]
  simp [rl]
section
variable {T : List Str} {pth : Str -> List Str} {g : Str -> Str} {h : Str}
noncomputable def placeP (pth : Str -> List Str) (x : Str) : Str := rend (pth x)
theorem Laid.last (H : Laid T pth g h) {x : Str} (m : x ∈ T) : ∃ a, pth x = a ++ [x] := by
  by_cases e : x ∈ pth h
  · obtain ⟨a, b, e⟩ := List.append_of_mem e
    exact ⟨a, H.pre a x b e⟩
  · exact ⟨_, (H.off x m e).2⟩
theorem Laid.mem (H : Laid T pth g h) {x : Str} (m : x ∈ T) : x ∈ pth x := by
  obtain ⟨a, e⟩ := H.last m
  rw [e]; simp
theorem Laid.gp (H : Laid T pth g h) {x : Str} (m : x ∈ T) : ∀ y ∈ pth x, GN y := fun y my => H.gn y (H.sub x m y my)
theorem Laid.path (H : Laid T pth g h) {x : Str} (m : x ∈ T) : Path (pth x) := ⟨H.gp m, fun y my => H.short y (H.sub x m y my), H.len x m⟩
theorem Laid.base (H : Laid T pth g h) {x : Str} (m : x ∈ T) : baseS (placeP pth x) = x := by
  obtain ⟨a, e⟩ := H.last m
  unfold placeP
  rw [e]
  exact base_rend (H.gn x m)
theorem Laid.inj (H : Laid T pth g h) {x y : Str} (mx : x ∈ T) (my : y ∈ T) (e : placeP pth x = placeP pth y) : x = y := by
  rw [<- H.base mx, <- H.base my, e]
theorem Laid.sp (H : Laid T pth g h) {x : Str} (m : x ∈ pth h) : x ∈ T := H.sub h H.hT x m
theorem Laid.preIff (H : Laid T pth g h) {x : Str} (m : x ∈ T) : pth x <+: pth h ↔ x ∈ pth h := by
  constructor
  · exact fun q => q.subset (H.mem m)
  · intro q
    obtain ⟨a, b, e⟩ := List.append_of_mem q
    rw [H.pre a x b e]
    exact ⟨b, by rw [e]; simp⟩
theorem Laid.nodupP (H : Laid T pth g h) : ∀ {l : List Str}, (∀ x ∈ l, x ∈ T) -> l.Nodup -> (l.map (placeP pth)).Nodup
  | [], _, _ => List.Pairwise.nil
  | x :: l, hm, nd => by
    have nd' := List.pairwise_cons.mp nd
    refine List.pairwise_cons.mpr ⟨fun p mp => ?_, H.nodupP (fun y m => hm y (.tail _ m)) nd'.2⟩
    obtain ⟨y, my, rfl⟩ := List.mem_map.mp mp
    exact fun e => nd'.1 y my (H.inj (hm x (.head _)) (hm y (.tail _ my)) e)
theorem Laid.rise (H : Laid T pth g h) : ∀ (r q : List Str), pth h = q ++ r -> Rising (r.map (placeP pth))
  | [], _, _ => List.Pairwise.nil
  | y :: r, q, e => by
    refine List.pairwise_cons.mpr ⟨fun p mp => ?_, H.rise r (q ++ [y]) (by rw [e]; simp)⟩
    obtain ⟨z, mz, rfl⟩ := List.mem_map.mp mp
    obtain ⟨u, v, ev⟩ := List.append_of_mem mz
    have hy := H.pre q y r e
    have hz := H.pre (q ++ y :: u) z v (by rw [e, ev]; simp)
    unfold placeP
    rw [hy, hz, show (q ++ y :: u) ++ [z] = (q ++ [y]) ++ (u ++ [z]) by simp]
    exact lt_rend (by simp) (by simp)
theorem Laid.spine (H : Laid T pth g h) : spineS (sortS (T.map (placeP pth))) (placeP pth h) = (pth h).map (placeP pth) := by
  refine eq_rising ((sortS_rising (H.nodupP (fun x m => m) H.nd)).filter _) (H.rise (pth h) [] rfl) fun p => ?_
  unfold spineS
  rw [List.mem_filter, (sortS_perm _).mem_iff, List.mem_map, List.mem_map]
  constructor
  · rintro ⟨⟨x, mx, rfl⟩, q⟩
    exact ⟨x, (H.preIff mx).mp ((comm_two (H.gp mx) (H.gp H.hT)).mp q), rfl⟩
  · rintro ⟨x, mx, rfl⟩
    have mT := H.sp mx
    exact ⟨⟨x, mT, rfl⟩, (comm_two (H.gp mT) (H.gp H.hT)).mpr ((H.preIff mT).mpr mx)⟩
theorem Laid.row (H : Laid T pth g h) : rowS (sortS (T.map (placeP pth))) (placeP pth h) = (pth h).reverse := by
  unfold rowS
  rw [H.spine, List.map_map]
  congr 1
  have : ∀ x ∈ pth h, (baseS ∘ placeP pth) x = id x := fun x m => H.base (H.sp m)
  rw [List.map_congr_left this, List.map_id]
theorem Laid.plen (H : Laid T pth g h) {x : Str} (m : x ∈ T) : (placeP pth x).length <= 1000 := Nat.le_trans (H.path m).rlen (by decide)
theorem Laid.dirS_len (H : Laid T pth g h) {x : Str} (m : x ∈ T) : (dirS (placeP pth x)).length <= 1000 := by
  obtain ⟨a, e⟩ := H.last m
  have hp := H.path m
  rw [e] at hp
  unfold placeP
  rw [e, dir_rend (fun y my => hp.gn y (List.mem_append_left _ my)) (H.gn x m)]
  have : Path a := ⟨fun y my => hp.gn y (List.mem_append_left _ my), fun y my => hp.short y (List.mem_append_left _ my), by have := hp.len; rw [List.length_append] at this; omega⟩
  exact Nat.le_trans this.rlen (by decide)
theorem Laid.rest (H : Laid T pth g h) : ∀ p, p ∈ restS (spineS (sortS (T.map (placeP pth))) (placeP pth h)) (sortS (T.map (placeP pth))) ↔ ∃ x, x ∈ T /\ x ∉ pth h /\ p = placeP pth x := fun p => by
  unfold restS
  rw [List.mem_filter, decide_eq_true_iff, (sortS_perm _).mem_iff, List.mem_map, H.spine, List.mem_map]
  constructor
  · rintro ⟨⟨x, mx, rfl⟩, n⟩
    exact ⟨x, mx, fun q => n ⟨x, q, rfl⟩, rfl⟩
  · rintro ⟨x, mx, n, rfl⟩
    exact ⟨⟨x, mx, rfl⟩, fun ⟨y, my, e⟩ => n (H.inj (H.sp my) mx e ▸ my)⟩
theorem Laid.keys (H : Laid T pth g h) : ∀ x, x ∈ keysS (sortS (T.map (placeP pth))) (placeP pth h) ↔ x ∈ T := fun x => by
  unfold keysS
  rw [List.mem_append, (sortS_perm _).mem_iff, H.row, List.mem_reverse, List.mem_map]
  constructor
  · rintro (m | ⟨p, mp, rfl⟩)
    · exact H.sp m
    · obtain ⟨y, my, _, rfl⟩ := (H.rest p).mp mp
      rw [H.base my]; exact my
  · intro m
    by_cases e : x ∈ pth h
    · exact .inl e
    · exact .inr ⟨_, (H.rest _).mpr ⟨x, m, e, rfl⟩, H.base m⟩
theorem Laid.map (H : Laid T pth g h) (row : (sortS (pth h).reverse).map g = (pth h).reverse) : MapOk (sortS (T.map (placeP pth))) (placeP pth h) g := by
  have hm : ∀ p ∈ sortS (T.map (placeP pth)), ∃ x, x ∈ T /\ p = placeP pth x := fun p m => by
    obtain ⟨x, mx, rfl⟩ := List.mem_map.mp ((sortS_perm _).mem_iff.mp m)
    exact ⟨x, mx, rfl⟩
  refine ⟨?_, fun p m => ?_, fun p m => ?_, ?_, fun p m n => ?_, ?_, fun p m => ?_⟩
  · rw [(sortS_perm _).length_eq, List.length_map, H.tl]; decide
  · obtain ⟨x, mx, rfl⟩ := hm p m
    exact H.plen mx
  · obtain ⟨x, mx, rfl⟩ := hm p m
    exact cpok (L := [pth x, pth h]) (by simp) (by show 2 <= 1000; decide) fun l ml => by
      rcases List.mem_cons.mp ml with rfl | ml
      · exact H.path mx
      · rw [List.mem_singleton.mp ml]; exact H.path H.hT
  · rw [H.row, row]
  · obtain ⟨x, mx, rfl⟩ := hm p m
    have nx : x ∉ pth h := fun q => n (by rw [H.spine]; exact List.mem_map_of_mem q)
    obtain ⟨gt, e⟩ := H.off x mx nx
    rw [H.base mx]
    unfold placeP
    rw [e, dir_rend (H.gp gt) (H.gn x mx)]
    exact (H.base gt).symm
  · unfold keysS
    rw [List.nodup_append]
    refine ⟨(sortS_perm _).nodup_iff.mpr (by rw [H.row]; exact (List.reverse_perm _).nodup_iff.mpr H.snd), ?_, fun a ma b mb e => ?_⟩
    · have nf : (restS (spineS (sortS (T.map (placeP pth))) (placeP pth h)) (sortS (T.map (placeP pth)))).Nodup := List.Pairwise.filter _ (sortS_rising (H.nodupP (fun x m => m) H.nd)).nodup
      have key : ∀ l : List Str, (∀ p ∈ l, ∃ x, x ∈ T /\ p = placeP pth x) -> l.Nodup -> (l.map baseS).Nodup := by
        intro l
        induction l with
        | nil => exact fun _ _ => List.Pairwise.nil
        | cons p l ih =>
          intro hl nd
          have nd' := List.pairwise_cons.mp nd
          refine List.pairwise_cons.mpr ⟨fun b mb e => ?_, ih (fun q m => hl q (.tail _ m)) nd'.2⟩
          obtain ⟨q, mq, rfl⟩ := List.mem_map.mp mb
          obtain ⟨x, mx, rfl⟩ := hl p (.head _)
          obtain ⟨y, my, rfl⟩ := hl q (.tail _ mq)
          rw [H.base mx, H.base my] at e
          subst e
          exact nd'.1 _ mq rfl
      exact key _ (fun p m => by obtain ⟨x, mx, _, e⟩ := (H.rest p).mp m; exact ⟨x, mx, e⟩) nf
    · subst e
      rw [(sortS_perm _).mem_iff, H.row, List.mem_reverse] at ma
      obtain ⟨p, mp, rfl⟩ := List.mem_map.mp mb
      obtain ⟨x, mx, nx, rfl⟩ := (H.rest p).mp mp
      rw [H.base mx] at ma
      exact nx ma
  · obtain ⟨x, mx, rfl⟩ := hm p m
    exact H.dirS_len mx
end
end Jv.L1
namespace Jv.L1
open PySem PySem.W PySem.Calls PyProof.Rows PySem.Builtin PySem.Builtin.Str
section
variable {T : List Str} {pth : Str -> List Str} {g : Str -> Str} {h : Str}
theorem Laid.inS (H : Laid T pth g h) {x : Str} : x ∈ sortS (pth h).reverse ↔ x ∈ pth h := by rw [(sortS_perm _).mem_iff, List.mem_reverse]
theorem Laid.onto (H : Laid T pth g h) (row : (sortS (pth h).reverse).map g = (pth h).reverse) {x : Str} (m : x ∈ pth h) : ∃ y, y ∈ pth h /\ g y = x := by
  have : x ∈ (sortS (pth h).reverse).map g := by rw [row]; exact List.mem_reverse.mpr m
  obtain ⟨y, my, e⟩ := List.mem_map.mp this
  exact ⟨y, H.inS.mp my, e⟩
theorem Laid.into (H : Laid T pth g h) (row : (sortS (pth h).reverse).map g = (pth h).reverse) {x : Str} (m : x ∈ pth h) : g x ∈ pth h := by
  have : g x ∈ (sortS (pth h).reverse).map g := List.mem_map_of_mem (H.inS.mpr m)
  rw [row] at this
  exact List.mem_reverse.mp this
theorem Laid.gT (H : Laid T pth g h) (row : (sortS (pth h).reverse).map g = (pth h).reverse) {x : Str} (m : x ∈ T) : g x ∈ T := by
  by_cases e : x ∈ pth h
  · exact H.sp (H.into row e)
  · exact (H.off x m e).1
theorem Laid.pathOf (H : Laid T pth g h) : ∀ {done rest : List Str}, pth h = done.map g ++ rest -> Jv.L1.pathOf g (placeP pth) done = rend (done.map g) := fun {done rest} e => by
  unfold Jv.L1.pathOf
  cases q : done.getLast? with
  | none =>
    have : done = [] := List.getLast?_eq_none_iff.mp q
    subst this; rfl
  | some z =>
    obtain ⟨d', hd⟩ : ∃ d', done = d' ++ [z] := by
      have hne : done ≠ [] := fun e => by subst e; cases q
      have hl : done.getLast hne = z := by rw [List.getLast?_eq_some_getLast hne] at q; exact Option.some.inj q
      exact ⟨done.dropLast, by rw [<- hl, List.dropLast_concat_getLast]⟩
    subst hd
    have hp := H.pre (d'.map g) (g z) rest (by rw [e]; simp)
    show rend (pth (g z)) = _
    rw [hp]; simp
theorem Laid.rest_ (H : Laid T pth g h) (row : (sortS (pth h).reverse).map g = (pth h).reverse) : (sortS (pth h).reverse).reverse.map g = pth h := by
  rw [List.map_reverse, row, List.reverse_reverse]
theorem Laid.reach (H : Laid T pth g h) : ∀ (n : Nat) (x : Str), x ∈ T -> (pth x).length <= n -> ∃ m, m <= n /\ itg g m x ∈ sortS (pth h).reverse
  | 0, x, m, l => by
    obtain ⟨a, e⟩ := H.last m
    rw [e] at l; simp at l
  | n + 1, x, m, l => by
    by_cases e : x ∈ pth h
    · exact ⟨0, Nat.zero_le _, H.inS.mpr e⟩
    · obtain ⟨gt, e2⟩ := H.off x m e
      obtain ⟨k, hk, hm⟩ := H.reach n (g x) gt (by rw [e2, List.length_append] at l; simp at l; omega)
      exact ⟨k + 1, by omega, hm⟩
theorem Laid.tree (H : Laid T pth g h) {goes : List Int} (glen : goes.length = 6) (ix : ∀ k, k < 6 → 0 ≤ goes.getD k 0 ∧ (goes.getD k 0).toNat < 6) (hg : ∀ k, k < 6 → getS T (goes.getD k 0) = g (T.getD k ""))
    (row : (sortS (pth h).reverse).map g = (pth h).reverse) (hL : iterL g 6 (sortS T) = sortS (pth h).reverse) :
    TreeOk T goes g (placeP pth) (sortS (pth h).reverse) /\ Jv.L1.pathOf g (placeP pth) (sortS (pth h).reverse).reverse = placeP pth h := by
  have tl := H.tl
  refine ⟨⟨H.nd, by omega, by omega, fun k hk => by rw [tl] at hk ⊢; exact ix k hk, fun k hk => hg k (by omega), by rw [tl]; exact hL, fun done one rest e => ?_, fun x m n => ?_, H.short, fun x m => H.plen m, fun x m => ?_⟩, ?_⟩
  · have e2 := H.rest_ row
    rw [e, List.map_append, List.map_cons] at e2
    rw [H.pathOf e2.symm, join_rend (fun y my => H.gp H.hT y (by rw [<- e2]; exact List.mem_append_left _ my)) (H.gp H.hT _ (by rw [<- e2]; simp))]
    unfold placeP
    rw [H.pre _ _ _ e2.symm]
  · have nx : x ∉ pth h := fun q => n (H.inS.mpr q)
    obtain ⟨gt, e⟩ := H.off x m nx
    unfold placeP
    rw [e, join_rend (H.gp gt) (H.gn x m)]
  · rw [tl]
    exact H.reach 6 x m (H.len x m)
  · have e2 := H.rest_ row
    rw [H.pathOf (rest := []) (by rw [e2, List.append_nil]), e2]; rfl
theorem Laid.stay (H : Laid T pth g h) (row : (sortS (pth h).reverse).map g = (pth h).reverse) : ∀ (n : Nat) (M : List Str), (∀ x ∈ pth h, x ∈ M) -> ∀ x ∈ pth h, x ∈ iterL g n M
  | 0, M, hm => hm
  | n + 1, M, hm => H.stay row n (stepL g M) fun x m => by
    obtain ⟨y, my, e⟩ := H.onto row m
    exact step_mem.mpr ⟨hm x m, y, hm y my, e⟩
theorem Laid.cyc (H : Laid T pth g h) (row : (sortS (pth h).reverse).map g = (pth h).reverse) : iterL g 6 (sortS T) = sortS (pth h).reverse := by
  have clo : ∀ x ∈ sortS T, g x ∈ sortS T := fun x m => (sortS_perm T).mem_iff.mpr (H.gT row ((sortS_perm T).mem_iff.mp m))
  obtain ⟨r1, c1, s1⟩ := iter_inv 6 (sortS T) (sortS_rising H.nd) clo
  have fx := iter_fix (g := g) 6 (sortS T) (by rw [(sortS_perm T).length_eq, H.tl]; exact Nat.le_refl _)
  refine eq_rising r1 (sortS_rising ((List.reverse_perm _).nodup_iff.mpr H.snd)) fun x => ?_
  rw [H.inS]
  constructor
  · have key : ∀ (n : Nat) (x : Str), x ∈ iterL g 6 (sortS T) -> x ∉ pth h -> 6 - (pth x).length <= n -> False := by
      intro n
      induction n with
      | zero =>
        intro x m nx l
        rw [<- fx] at m
        obtain ⟨_, y, my, e⟩ := step_mem.mp m
        have yT := (sortS_perm T).mem_iff.mp (s1 y my)
        have ny : y ∉ pth h := fun q => nx (e ▸ H.into row q)
        have h1 := H.len y yT
        rw [(H.off y yT ny).2, e, List.length_append] at h1
        simp at h1
        omega
      | succ n ih =>
        intro x m nx l
        rw [<- fx] at m
        obtain ⟨_, y, my, e⟩ := step_mem.mp m
        have yT := (sortS_perm T).mem_iff.mp (s1 y my)
        have ny : y ∉ pth h := fun q => nx (e ▸ H.into row q)
        refine ih y my ny ?_
        rw [(H.off y yT ny).2, e, List.length_append]
        show 6 - ((pth x).length + 1) <= n
        omega
    exact fun m => Decidable.byContradiction fun nx => key 6 x m nx (Nat.sub_le _ _)
  · exact H.stay row 6 (sortS T) (fun y my => (sortS_perm T).mem_iff.mpr (H.sp my)) x
end
end Jv.L1
namespace Jv.L1
open PySem PySem.W PySem.Calls PyProof.Rows PySem.Builtin PySem.Builtin.Str
theorem perm_of_sub : ∀ {a b : List Str}, a.Nodup -> (∀ x ∈ a, x ∈ b) -> b.length <= a.length -> a.Perm b
  | [], b, _, _, l => by
    have : b = [] := List.length_eq_zero_iff.mp (Nat.le_zero.mp l)
    rw [this]
  | x :: a, b, nd, h, l => by
    have hx := h x (.head _)
    have nd' := List.pairwise_cons.mp nd
    have ih := perm_of_sub (a := a) (b := b.erase x) nd'.2 (fun y m => (List.mem_erase_of_ne (fun e => nd'.1 y m e.symm)).mpr (h y (.tail _ m))) (by
      rw [List.length_erase_of_mem hx]
      show b.length - 1 <= a.length
      have : b.length <= a.length + 1 := l
      omega)
    exact (ih.cons x).trans (List.perm_cons_erase hx).symm
theorem itg_iter {g : Str -> Str} : ∀ (n : Nat) (M : List Str), (∀ x ∈ M, g x ∈ M) -> ∀ x ∈ M, itg g n x ∈ iterL g n M
  | 0, M, _, x, m => m
  | n + 1, M, c, x, m => itg_iter n (stepL g M) (step_closed c) (g x) (step_mem.mpr ⟨c x m, x, m, rfl⟩)
theorem itg_closed {g : Str -> Str} {L : List Str} (c : ∀ x ∈ L, g x ∈ L) : ∀ (n : Nat) (x : Str), x ∈ L -> itg g n x ∈ L
  | 0, x, m => m
  | n + 1, x, m => itg_closed c n (g x) (c x m)
noncomputable def preS (S : List Str) (x : Str) : List Str := S.takeWhile (fun y => y != x) ++ [x]
theorem preS_is {x : Str} {b : List Str} : ∀ {a : List Str}, x ∉ a -> preS (a ++ x :: b) x = a ++ [x]
  | [], _ => by
    unfold preS
    rw [List.nil_append, List.takeWhile_cons_of_neg (by simp)]
  | y :: a, h => by
    have ih := preS_is (b := b) (a := a) fun m => h (.tail _ m)
    have hy : (y != x) = true := by
      rw [bne_iff_ne]; rintro rfl; exact h (.head _)
    unfold preS at ih ⊢
    rw [List.cons_append, List.takeWhile_cons_of_pos (by simpa using hy), List.cons_append, ih]; rfl
noncomputable def pthN (g : Str -> Str) (L S : List Str) : Nat -> Str -> List Str
  | 0, x => preS S x
  | n + 1, x => if x ∈ L then preS S x else pthN g L S n (g x) ++ [x]
section
variable {g : Str -> Str} {L S : List Str}
theorem pthN_in {n : Nat} {x : Str} (m : x ∈ L) : pthN g L S n x = preS S x := by
  cases n with
  | zero => rfl
  | succ n => exact if_pos m
theorem pthN_stable (c : ∀ x ∈ L, g x ∈ L) : ∀ (n : Nat) (x : Str), itg g n x ∈ L -> pthN g L S (n + 1) x = pthN g L S n x
  | 0, x, m => pthN_in m
  | n + 1, x, m => by
    by_cases e : x ∈ L
    · rw [pthN_in e, pthN_in e]
    · unfold pthN
      rw [if_neg e, if_neg e, pthN_stable c n (g x) m]
theorem pthN_A (c : ∀ x ∈ L, g x ∈ L) (hS : ∀ x ∈ S, x ∈ L) : ∀ (n : Nat) (x : Str), itg g n x ∈ L -> ∀ y ∈ pthN g L S n x, itg g n y ∈ L
  | 0, x, m, y, my => by
    rcases List.mem_append.mp my with q | q
    · exact hS y ((List.takeWhile_sublist _).subset q)
    · rw [List.mem_singleton.mp q]; exact m
  | n + 1, x, m, y, my => by
    by_cases e : x ∈ L
    · rw [pthN_in e] at my
      rcases List.mem_append.mp my with q | q
      · exact itg_closed c _ _ (hS y ((List.takeWhile_sublist _).subset q))
      · rw [List.mem_singleton.mp q]; exact m
    · unfold pthN at my
      rw [if_neg e] at my
      rcases List.mem_append.mp my with q | q
      · rw [itg_succ]
        exact c _ (pthN_A c hS n (g x) m y q)
      · rw [List.mem_singleton.mp q]; exact m
theorem preS_nodup (nS : S.Nodup) (x : Str) : (preS S x).Nodup := by
  unfold preS
  rw [List.nodup_append]
  refine ⟨nS.sublist (List.takeWhile_sublist _), List.pairwise_singleton _ _, fun a ha b hb e => ?_⟩
  have := List.all_eq_true.mp (List.all_takeWhile (p := fun y => y != x) (l := S)) a ha
  rw [List.mem_singleton.mp hb] at e
  subst e
  simp at this
theorem pthN_nodup (c : ∀ x ∈ L, g x ∈ L) (hS : ∀ x ∈ S, x ∈ L) (nS : S.Nodup) : ∀ (n : Nat) (x : Str), itg g n x ∈ L -> (pthN g L S n x).Nodup
  | 0, x, m => preS_nodup nS x
  | n + 1, x, m => by
    by_cases e : itg g n x ∈ L
    · rw [pthN_stable c n x e]
      exact pthN_nodup c hS nS n x e
    · have e2 : x ∉ L := fun q => e (itg_closed c n x q)
      unfold pthN
      rw [if_neg e2, List.nodup_append]
      refine ⟨pthN_nodup c hS nS n (g x) m, List.pairwise_singleton _ _, fun a ha b hb q => ?_⟩
      rw [List.mem_singleton.mp hb] at q
      subst q
      exact e (pthN_A c hS n (g a) m a ha)
theorem pthN_sub {T : List Str} (hg : ∀ x ∈ T, g x ∈ T) (hS : ∀ x ∈ S, x ∈ T) : ∀ (n : Nat) (x : Str), x ∈ T -> ∀ y ∈ pthN g L S n x, y ∈ T
  | 0, x, m, y, my => by
    rcases List.mem_append.mp my with q | q
    · exact hS y ((List.takeWhile_sublist _).subset q)
    · rw [List.mem_singleton.mp q]; exact m
  | n + 1, x, m, y, my => by
    by_cases e : x ∈ L
    · rw [pthN_in e] at my
      rcases List.mem_append.mp my with q | q
      · exact hS y ((List.takeWhile_sublist _).subset q)
      · rw [List.mem_singleton.mp q]; exact m
    · unfold pthN at my
      rw [if_neg e] at my
      rcases List.mem_append.mp my with q | q
      · exact pthN_sub hg hS n (g x) (hg x m) y q
      · rw [List.mem_singleton.mp q]; exact m
end
theorem laid_map {T : List Str} {g : Str -> Str} (nd : T.Nodup) (tl : T.length = 6) (gn : ∀ x ∈ T, GN x) (short : ∀ x ∈ T, x.length <= 100) (clo : ∀ x ∈ T, g x ∈ T) :
    ∃ pth h, Laid T pth g h /\ (sortS (pth h).reverse).map g = (pth h).reverse := by
  have clS : ∀ x ∈ sortS T, g x ∈ sortS T := fun x m => (sortS_perm T).mem_iff.mpr (clo x ((sortS_perm T).mem_iff.mp m))
  obtain ⟨r1, c1, s1⟩ := iter_inv 6 (sortS T) (sortS_rising nd) clS
  have fx := iter_fix (g := g) 6 (sortS T) (by rw [(sortS_perm T).length_eq, tl]; exact Nat.le_refl _)
  have hit : ∀ x ∈ T, itg g 6 x ∈ iterL g 6 (sortS T) := fun x m => itg_iter 6 (sortS T) clS x ((sortS_perm T).mem_iff.mpr m)
  generalize iterL g 6 (sortS T) = L at r1 c1 s1 fx hit
  have LT : ∀ x ∈ L, x ∈ T := fun x m => (sortS_perm T).mem_iff.mp (s1 x m)
  have onto : ∀ x ∈ L, x ∈ L.map g := fun x m => by
    rw [<- fx] at m
    obtain ⟨_, y, my, e⟩ := step_mem.mp m
    exact List.mem_map.mpr ⟨y, my, e⟩
  have pm : L.Perm (L.map g) := perm_of_sub r1.nodup onto (by rw [List.length_map]; exact Nat.le_refl _)
  let S := (L.map g).reverse
  have SL : ∀ x, x ∈ S ↔ x ∈ L := fun x => by
    show x ∈ (L.map g).reverse ↔ _
    rw [List.mem_reverse]; exact pm.mem_iff.symm
  have nS : S.Nodup := (List.reverse_perm _).nodup_iff.mpr (pm.nodup_iff.mp r1.nodup)
  obtain ⟨t, mt⟩ := List.exists_mem_of_ne_nil T (fun e => by rw [e] at tl; cases tl)
  have hne : S ≠ [] := fun e => by
    have := (SL _).mpr (hit t mt)
    rw [e] at this; cases this
  let h := S.getLast hne
  have eS : S = S.dropLast ++ [h] := (List.dropLast_concat_getLast hne).symm
  have hh : h ∈ L := (SL h).mp (List.getLast_mem hne)
  let pth := pthN g L S 7
  have split : ∀ a y b, S = a ++ y :: b -> pth y = a ++ [y] := fun a y b e => by
    have my : y ∈ L := (SL y).mp (by rw [e]; simp)
    have ya : y ∉ a := fun m => by
      have := nS
      rw [e, List.nodup_append] at this
      exact this.2.2 y m y (.head _) rfl
    show pthN g L S 7 y = _
    rw [pthN_in my]
    have := preS_is (b := b) ya
    rw [<- e] at this
    exact this
  have ph : pth h = S := by rw [split _ h [] eS]; exact eS.symm
  have it7 : ∀ x ∈ T, itg g 7 x ∈ L := fun x m => by rw [itg_succ]; exact c1 _ (hit x m)
  have sub : ∀ x ∈ T, ∀ y ∈ pth x, y ∈ T := pthN_sub clo (fun x m => LT x ((SL x).mp m)) 7
  refine ⟨pth, h, ⟨nd, tl, gn, short, LT h hh, ⟨S.dropLast, by rw [ph]; exact eS⟩, by rw [ph]; exact nS, sub, fun x m => ?_, fun a y b e => split a y b (by rw [<- ph]; exact e), fun x m nx => ⟨clo x m, ?_⟩⟩, ?_⟩
  · rw [<- tl]
    exact len_sub (pthN_nodup c1 (fun x m => (SL x).mp m) nS 7 x (it7 x m)) (sub x m)
  · have nL : x ∉ L := fun q => nx (by rw [ph]; exact (SL x).mpr q)
    show pthN g L S 7 x = pthN g L S 7 (g x) ++ [x]
    rw [pthN_stable c1 6 (g x) (hit (g x) (clo x m))]
    exact if_neg nL
  · rw [ph]
    have e : S.reverse = L.map g := List.reverse_reverse _
    rw [e]
    have : sortS (L.map g) = L := (sortS_unique pm (r1.imp strLe_of_lt)).symm
    rw [this]
end Jv.L1
namespace Jv.L1
open PySem PySem.W PySem.Calls PyProof.Rows PySem.Builtin PySem.Builtin.Str
noncomputable def idx (T : List Str) (x : Str) : Int := (T.findIdx (· == x) : Nat)
theorem idx_at {T : List Str} (nd : T.Nodup) {i : Nat} (h : i < T.length) : idx T T[i] = (i : Nat) := by
  unfold idx
  congr 1
  refine (List.findIdx_eq h).mpr ⟨by simp, fun j hj => ?_⟩
  have := List.pairwise_iff_getElem.mp nd j i (by omega) h hj
  simpa using this
theorem getS_at {T : List Str} {i : Nat} (h : i < T.length) : getS T (i : Nat) = T[i] := by
  unfold getS
  simp [h]
theorem idx_get {T : List Str} (nd : T.Nodup) {k : Int} (h0 : 0 <= k) (h : k.toNat < T.length) : idx T (getS T k) = k := by
  obtain ⟨n, rfl⟩ := Int.eq_ofNat_of_zero_le h0
  have h' : n < T.length := h
  rw [getS_at h', idx_at nd h']
theorem mem_get {T : List Str} (tl : T.length = 6) {x : Str} (m : x ∈ T) : ∃ k : Int, 0 <= k /\ k < 6 /\ x = getS T k := by
  obtain ⟨i, hi, rfl⟩ := List.getElem_of_mem m
  exact ⟨(i : Nat), Int.natCast_nonneg _, by omega, (getS_at hi).symm⟩
noncomputable def gOf (T : List Str) (goes : List Int) (x : Str) : Str := getS T (getI goes (idx T x))
theorem gOf_get {T : List Str} {goes : List Int} (nd : T.Nodup) {k : Int} (h0 : 0 <= k) (h : k.toNat < T.length) : gOf T goes (getS T k) = getS T (getI goes k) := by
  unfold gOf
  rw [idx_get nd h0 h]
theorem setAll_get : ∀ (ps : List (Int × Int)) (l : List Int), (∀ p ∈ ps, 0 <= p.1 /\ p.1.toNat < l.length) -> (ps.map (·.1)).Nodup -> (∀ p ∈ ps, getI (setAll ps l) p.1 = p.2) /\ ∀ k : Int, 0 <= k -> k ∉ ps.map (·.1) -> getI (setAll ps l) k = getI l k
  | [], l, _, _ => ⟨(fun p m => nomatch m), fun k _ _ => rfl⟩
  | p :: ps, l, h, nd => by
    have nd' := List.pairwise_cons.mp nd
    have hp := h p (.head _)
    obtain ⟨a, b⟩ := setAll_get ps (l.set p.1.toNat p.2) (fun q m => by rw [List.length_set]; exact h q (.tail _ m)) nd'.2
    refine ⟨fun q m => ?_, fun k hk nk => ?_⟩
    · rcases List.mem_cons.mp m with rfl | m
      · show getI (setAll ps (l.set q.1.toNat q.2)) q.1 = _
        rw [b q.1 hp.1 fun m => nd'.1 _ m rfl]
        unfold getI
        simp [hp.2]
      · exact a q m
    · show getI (setAll ps (l.set p.1.toNat p.2)) k = _
      rw [b k hk fun m => nk (.tail _ m)]
      have ne : p.1.toNat ≠ k.toNat := fun e => nk (by
        have : k = p.1 := by omega
        rw [this]; exact .head _)
      unfold getI
      simp [ne]
noncomputable def upK (above : List Int) : Nat -> Int -> List Int
  | 0, k => [k]
  | n + 1, k => if k = 0 then [0] else k :: upK above n (getI above k)
section
variable {above : List Int} (ar : ∀ k : Int, 1 <= k -> k < 6 -> 0 <= getI above k /\ getI above k < k)
theorem upK_head (n : Nat) (k : Int) : ∃ r, upK above n k = k :: r := by
  cases n with
  | zero => exact ⟨[], rfl⟩
  | succ n =>
    unfold upK
    by_cases e : k = 0
    · rw [if_pos e, e]; exact ⟨[], rfl⟩
    · rw [if_neg e]; exact ⟨_, rfl⟩
include ar in
theorem upK_stable : ∀ (n : Nat) (k : Int), 0 <= k -> k < 6 -> k.toNat <= n -> upK above (n + 1) k = upK above n k
  | 0, k, h0, h6, h => by
    obtain rfl : k = 0 := by omega
    rfl
  | n + 1, k, h0, h6, h => by
    by_cases e : k = 0
    · subst e; rfl
    · have := ar k (by omega) h6
      have ih := upK_stable n (getI above k) this.1 (by omega) (by omega)
      show (if k = 0 then [0] else k :: upK above (n + 1) (getI above k)) = (if k = 0 then [0] else k :: upK above n (getI above k))
      rw [if_neg e, if_neg e, ih]
include ar in
theorem upK_split : ∀ (n : Nat) (k : Int), 0 <= k -> k < 6 -> k.toNat <= n -> ∀ done z rest, upK above n k = done ++ z :: rest -> 0 <= z /\ z <= k /\ upK above n z = z :: rest
  | 0, k, h0, h6, h, done, z, rest, e => by
    cases done with
    | nil => obtain ⟨rfl, rfl⟩ := List.cons.inj e; exact ⟨h0, Int.le_refl _, rfl⟩
    | cons d done => obtain ⟨_, e⟩ := List.cons.inj e; simp at e
  | n + 1, k, h0, h6, h, done, z, rest, e => by
    by_cases hk : k = 0
    · subst hk
      cases done with
      | nil => obtain ⟨rfl, rfl⟩ := List.cons.inj e; exact ⟨h0, Int.le_refl _, rfl⟩
      | cons d done => obtain ⟨_, e⟩ := List.cons.inj e; simp at e
    · have e' : k :: upK above n (getI above k) = done ++ z :: rest := by
        rw [<- e]; exact (if_neg hk).symm
      have hak := ar k (by omega) h6
      cases done with
      | nil =>
        obtain ⟨rfl, rfl⟩ := List.cons.inj e'
        exact ⟨h0, Int.le_refl _, if_neg hk⟩
      | cons d done =>
        obtain ⟨rfl, e2⟩ := List.cons.inj e'
        obtain ⟨a, b, c⟩ := upK_split n (getI above k) hak.1 (by omega) (by omega) done z rest e2
        refine ⟨a, by omega, ?_⟩
        rw [upK_stable ar n z a (by omega) (by omega)]
        exact c
include ar in
theorem upK_mem {n : Nat} {k z : Int} (h0 : 0 <= k) (h6 : k < 6) (h : k.toNat <= n) (m : z ∈ upK above n k) : 0 <= z /\ z <= k := by
  obtain ⟨a, b, e⟩ := List.append_of_mem m
  obtain ⟨x, y, _⟩ := upK_split ar n k h0 h6 h a z b e
  exact ⟨x, y⟩
include ar in
theorem upK_nodup : ∀ (n : Nat) (k : Int), 0 <= k -> k < 6 -> k.toNat <= n -> (upK above n k).Nodup
  | 0, k, _, _, _ => List.pairwise_singleton _ _
  | n + 1, k, h0, h6, h => by
    unfold upK
    by_cases e : k = 0
    · rw [if_pos e]; exact List.pairwise_singleton _ _
    · have hak := ar k (by omega) h6
      rw [if_neg e]
      refine List.pairwise_cons.mpr ⟨fun z m => ?_, upK_nodup n _ hak.1 (by omega) (by omega)⟩
      have := upK_mem ar hak.1 (by omega) (by omega) m
      omega
include ar in
theorem upK_zero : ∀ (n : Nat) (k : Int), 0 <= k -> k < 6 -> k.toNat <= n -> (0 : Int) ∈ upK above n k
  | 0, k, h0, h6, h => by
    obtain rfl : k = 0 := by omega
    exact .head _
  | n + 1, k, h0, h6, h => by
    unfold upK
    by_cases e : k = 0
    · rw [if_pos e]; exact .head _
    · have hak := ar k (by omega) h6
      rw [if_neg e]
      exact .tail _ (upK_zero n _ hak.1 (by omega) (by omega))
theorem upK_len : ∀ (n : Nat) (k : Int), (upK above n k).length <= n + 1
  | 0, k => Nat.le_refl _
  | n + 1, k => by
    unfold upK
    by_cases e : k = 0
    · rw [if_pos e]; exact Nat.le_add_left _ _
    · rw [if_neg e]; exact Nat.succ_le_succ (upK_len n _)
end
noncomputable def pthA (T : List Str) (above : List Int) (x : Str) : List Str := ((upK above 5 (idx T x)).map (getS T)).reverse
section
variable {T : List Str} {above : List Int} {head : Int}
theorem laid_tree (nd : T.Nodup) (tl : T.length = 6) (gn : ∀ x ∈ T, GN x) (short : ∀ x ∈ T, x.length <= 100) (al : above.length = 6) (ar : ∀ k : Int, 1 <= k -> k < 6 -> 0 <= getI above k /\ getI above k < k) (hr : 0 <= head /\ head < 6) :
    Laid T (pthA T above) (gOf T (backS T above (upK above 5 head))) (getS T head) /\
    (sortS (pthA T above (getS T head)).reverse).map (gOf T (backS T above (upK above 5 head))) = (pthA T above (getS T head)).reverse /\
    DueOk T above head (upK above 5 head) (placeP (pthA T above)) /\
    (∀ k : Int, 0 <= k -> k < 6 -> 0 <= getI (backS T above (upK above 5 head)) k /\ getI (backS T above (upK above 5 head)) k < 6) := by
  generalize hsp : upK above 5 head = sp
  have h5 : head.toNat <= 5 := by omega
  have rng : ∀ z ∈ sp, 0 <= z /\ z < 6 := fun z m => by
    rw [<- hsp] at m
    have := upK_mem ar hr.1 hr.2 h5 m
    omega
  have nsp : sp.Nodup := hsp ▸ upK_nodup ar 5 head hr.1 hr.2 h5
  have lsp : sp.length <= 6 := hsp ▸ upK_len 5 head
  have key_inj : ∀ a b : Int, 0 <= a /\ a < 6 -> 0 <= b /\ b < 6 -> getS T a = getS T b -> a = b := fun a b ha hb e => getS_inj nd ⟨ha.1, by omega⟩ ⟨hb.1, by omega⟩ e
  have key_mem : ∀ a : Int, 0 <= a /\ a < 6 -> getS T a ∈ T := fun a ha => getS_mem (by omega)
  have pkey : ∀ a : Int, 0 <= a /\ a < 6 -> pthA T above (getS T a) = ((upK above 5 a).map (getS T)).reverse := fun a ha => by
    unfold pthA
    rw [idx_get nd ha.1 (by omega)]
  have ph : pthA T above (getS T head) = (sp.map (getS T)).reverse := by rw [pkey head hr, hsp]
  have inj_sp : ∀ x ∈ sp, ∀ y ∈ sp, getS T x = getS T y -> x = y := fun x mx y my e => key_inj x y (rng x mx) (rng y my) e
  have hps : ((sortK (getS T) sp).zip sp).map (·.1) = sortK (getS T) sp := List.map_fst_zip (Nat.le_of_eq (sortK_perm _ sp).length_eq)
  have hps2 : ((sortK (getS T) sp).zip sp).map (·.2) = sp := List.map_snd_zip (Nat.le_of_eq (sortK_perm _ sp).length_eq.symm)
  have back := setAll_get ((sortK (getS T) sp).zip sp) above (fun p m => by
    have hm := List.of_mem_zip (a := p.1) (b := p.2) m
    have := rng p.1 ((sortK_perm _ _).mem_iff.mp hm.1)
    exact ⟨this.1, by omega⟩) (by rw [hps]; exact (sortK_perm _ _).nodup_iff.mpr nsp)
  have bk1 : (sortK (getS T) sp).map (getI (backS T above sp)) = sp := by
    conv => lhs; rw [<- hps]
    rw [List.map_map]
    have : ∀ p ∈ (sortK (getS T) sp).zip sp, (getI (backS T above sp) ∘ fun p => p.1) p = p.2 := fun p m => back.1 p m
    rw [List.map_congr_left this, hps2]
  have bk2 : ∀ k : Int, 0 <= k -> k ∉ sp -> getI (backS T above sp) k = getI above k := fun k h0 nk => back.2 k h0 (by rw [hps]; exact fun m => nk ((sortK_perm _ _).mem_iff.mp m))
  have bk3 : ∀ k ∈ sp, getI (backS T above sp) k ∈ sp := fun k m => by
    have : getI (backS T above sp) k ∈ (sortK (getS T) sp).map (getI (backS T above sp)) := List.mem_map_of_mem ((sortK_perm _ _).mem_iff.mpr m)
    rwa [bk1] at this
  have bkr : ∀ k : Int, 0 <= k -> k < 6 -> 0 <= getI (backS T above sp) k /\ getI (backS T above sp) k < 6 := fun k h0 h6 => by
    by_cases m : k ∈ sp
    · exact rng _ (bk3 k m)
    · rw [bk2 k h0 m]
      have nz : k ≠ 0 := by
        rintro rfl
        exact m (hsp ▸ upK_zero ar 5 head hr.1 hr.2 h5)
      have := ar k (by omega) h6
      omega
  have gk : ∀ k : Int, 0 <= k -> k < 6 -> gOf T (backS T above sp) (getS T k) = getS T (getI (backS T above sp) k) := fun k h0 h6 => gOf_get nd h0 (by omega)
  have step : ∀ k : Int, 1 <= k -> k < 6 -> pthA T above (getS T k) = pthA T above (getS T (getI above k)) ++ [getS T k] := fun k h1 h6 => by
    have hak := ar k h1 h6
    rw [pkey k ⟨by omega, h6⟩, pkey (getI above k) ⟨hak.1, by omega⟩]
    have e : upK above 5 k = k :: upK above 4 (getI above k) := if_neg (by omega)
    rw [e, upK_stable ar 4 (getI above k) hak.1 (by omega) (by omega)]
    simp
  have L : Laid T (pthA T above) (gOf T (backS T above sp)) (getS T head) := by
    refine ⟨nd, tl, gn, short, key_mem head hr, ?_, ?_, fun x m y my => ?_, fun x m => ?_, fun a y b e => ?_, fun x m nx => ?_⟩
    · obtain ⟨r, e⟩ := upK_head (above := above) 5 head
      rw [ph, <- hsp, e]
      exact ⟨(r.map (getS T)).reverse, by simp⟩
    · rw [ph]
      refine (List.reverse_perm _).nodup_iff.mpr ?_
      refine List.pairwise_map.mpr (List.Pairwise.imp_of_mem (fun {a b} ma mb hne e => hne (inj_sp a ma b mb e)) nsp)
    · obtain ⟨k, h0, h6, rfl⟩ := mem_get tl m
      rw [pkey k ⟨h0, h6⟩, List.mem_reverse] at my
      obtain ⟨z, mz, rfl⟩ := List.mem_map.mp my
      have := upK_mem ar h0 h6 (by omega) mz
      exact key_mem z ⟨this.1, by omega⟩
    · obtain ⟨k, h0, h6, rfl⟩ := mem_get tl m
      rw [pkey k ⟨h0, h6⟩, List.length_reverse, List.length_map]
      exact upK_len 5 k
    · rw [ph] at e
      have e2 : sp.map (getS T) = b.reverse ++ y :: a.reverse := by
        have := congrArg List.reverse e
        rw [List.reverse_reverse] at this
        rw [this]; simp
      obtain ⟨l1, l2, e3, e4, e5⟩ := List.map_eq_append_iff.mp e2
      obtain ⟨z, rest, e6, e7, e8⟩ := List.map_eq_cons_iff.mp e5
      rw [e6] at e3
      obtain ⟨z0, z1, z2⟩ := upK_split ar 5 head hr.1 hr.2 h5 l1 z rest (hsp.trans e3)
      rw [<- e7, pkey z ⟨z0, by omega⟩, z2, List.map_cons, e8]
      simp
    · obtain ⟨k, h0, h6, rfl⟩ := mem_get tl m
      have nk : k ∉ sp := fun q => nx (by rw [ph, List.mem_reverse]; exact List.mem_map_of_mem q)
      have nz : k ≠ 0 := by
        rintro rfl
        exact nk (hsp ▸ upK_zero ar 5 head hr.1 hr.2 h5)
      have hak := ar k (by omega) h6
      rw [gk k h0 h6, bk2 k h0 nk]
      exact ⟨key_mem _ ⟨hak.1, by omega⟩, step k (by omega) h6⟩
  refine ⟨L, ?_, ?_, bkr⟩
  · rw [ph, List.reverse_reverse]
    have e : sortS (sp.map (getS T)) = (sortK (getS T) sp).map (getS T) := (sortS_unique ((sortK_perm _ sp).map _) (List.pairwise_map.mpr (sortK_sorted _ sp))).symm
    rw [e, List.map_map]
    have : ∀ k ∈ sortK (getS T) sp, (gOf T (backS T above sp) ∘ getS T) k = (getS T ∘ getI (backS T above sp)) k := fun k m => by
      have := rng k ((sortK_perm _ _).mem_iff.mp m)
      exact gk k this.1 this.2
    rw [List.map_congr_left this, <- List.map_map, bk1]
  · refine ⟨tl, nd, al, ar, hr, ?_, fun done z rest e => ?_, rng, lsp, ?_, fun k h1 h6 => ?_, short, fun x m => L.plen m⟩
    · obtain ⟨r, e⟩ := upK_head (above := above) 5 head
      exact ⟨r, by rw [<- hsp, e]⟩
    · obtain ⟨z0, z1, z2⟩ := upK_split ar 5 head hr.1 hr.2 h5 done z rest (hsp.trans e)
      by_cases hz : z = 0
      · subst hz
        have : rest = [] := (List.cons.inj z2).2.symm
        subst this
        exact ⟨⟨fun _ => rfl, fun _ => rfl⟩, fun y r q => nomatch q⟩
      · have e2 : upK above 5 z = z :: upK above 4 (getI above z) := if_neg hz
        rw [e2] at z2
        have e3 := (List.cons.inj z2).2
        obtain ⟨r', e4⟩ := upK_head (above := above) 4 (getI above z)
        rw [e4] at e3
        refine ⟨⟨fun q => absurd q hz, fun q => by rw [q] at e3; cases e3⟩, fun y r q => ?_⟩
        rw [q] at e3
        exact (List.cons.inj e3).1.symm
    · show rend (pthA T above (getS T 0)) = _
      rw [pkey 0 ⟨by decide, by decide⟩]
      exact rend_one _
    · have hak := ar k h1 h6
      show rend (pthA T above (getS T k)) = _
      rw [step k h1 h6]
      refine rend_snoc ?_
      obtain ⟨a, e⟩ := L.last (key_mem (getI above k) ⟨hak.1, by omega⟩)
      rw [e]; simp
end
end Jv.L1
namespace Jv.L1
open PySem PySem.W PySem.Calls PyProof.Rows PySem.Builtin PySem.Builtin.Str
theorem getS_nat {p : List Str} {n : Nat} (h : n < p.length) : getS p (n : Int) = p[n] := by
  unfold getS
  simp [h]
theorem takeN_ok : ∀ (n : Nat) (r : Int) (p : List Str), n <= p.length -> p.Nodup -> (takeN n r p).length = n /\ (∀ x ∈ takeN n r p, x ∈ p) /\ (takeN n r p).Nodup
  | 0, r, p, _, _ => ⟨rfl, (fun x m => nomatch m), List.Pairwise.nil⟩
  | n + 1, r, p, h, nd => by
    have hr := fmodR r (b := (p.length : Nat)) (by omega)
    obtain ⟨i, hi⟩ := Int.eq_ofNat_of_zero_le hr.1
    have hlt : i < p.length := by omega
    have hn : (p.eraseIdx i).Nodup := nd.sublist (List.eraseIdx_sublist ..)
    obtain ⟨a, b, c⟩ := takeN_ok n (r.fdiv (p.length : Nat)) (p.eraseIdx i) (by rw [List.length_eraseIdx_of_lt hlt]; omega) hn
    have e : takeN (n + 1) r p = p[i] :: takeN n (r.fdiv (p.length : Nat)) (p.eraseIdx i) := by
      show getS p (r.fmod (p.length : Nat)) :: takeN n _ (p.eraseIdx (r.fmod (p.length : Nat)).toNat) = _
      rw [hi, getS_nat hlt]; rfl
    rw [e]
    refine ⟨by rw [List.length_cons, a], fun x m => ?_, List.pairwise_cons.mpr ⟨fun x m q => ?_, c⟩⟩
    · rcases List.mem_cons.mp m with rfl | m
      · exact List.getElem_mem hlt
      · exact (List.eraseIdx_sublist ..).subset (b x m)
    · subst q
      have hx := b _ m
      obtain ⟨j, hj, hne, ej⟩ := List.mem_eraseIdx_iff_getElem.mp hx
      have np := List.pairwise_iff_getElem.mp nd
      rcases Nat.lt_or_gt_of_ne hne with q | q
      · exact np j i hj hlt q ej
      · exact np i j hlt hj q ej.symm
theorem inj_of_map {f : Str -> Str} : ∀ {l : List Str}, (l.map f).Nodup -> ∀ a ∈ l, ∀ b ∈ l, f a = f b -> a = b
  | x :: l, nd, a, ma, b, mb, e => by
    have nd' := List.pairwise_cons.mp nd
    rcases List.mem_cons.mp ma with ea | qa
    · rcases List.mem_cons.mp mb with eb | qb
      · rw [ea, eb]
      · rw [ea] at e
        exact absurd e (nd'.1 _ (List.mem_map_of_mem qb))
    · rcases List.mem_cons.mp mb with eb | qb
      · rw [eb] at e
        exact absurd e.symm (nd'.1 _ (List.mem_map_of_mem qa))
      · exact inj_of_map nd'.2 a qa b qb e
theorem map_inj {f : Str -> Str} {l : List Str} (nd : l.Nodup) (h : ∀ a ∈ l, ∀ b ∈ l, f a = f b -> a = b) : (l.map f).Nodup :=
  List.pairwise_map.mpr (List.Pairwise.imp_of_mem (fun {a b} ma mb hne e => hne (h a ma b mb e)) nd)
theorem goesAt_r (c k : Int) : 0 <= goesAt c k /\ goesAt c k < 6 := fmodR _ (by decide)
theorem goes_get {c1 : Int} {k : Nat} (h : k < 6) : (([0, 1, 2, 3, 4, 5] : List Int).map (goesAt c1)).getD k 0 = goesAt c1 (k : Int) := by
  rw [show ([0, 1, 2, 3, 4, 5] : List Int) = (List.range 6).map Int.ofNat from rfl]
  simp [h]
theorem above_r (c2 : Int) (k : Int) (h1 : 1 <= k) (h6 : k < 6) : 0 <= getI (0 :: digs c2 [1, 2, 3, 4, 5]) k /\ getI (0 :: digs c2 [1, 2, 3, 4, 5]) k < k := by
  have : k = 1 \/ k = 2 \/ k = 3 \/ k = 4 \/ k = 5 := by omega
  rcases this with rfl | rfl | rfl | rfl | rfl
  · exact fmodR _ (by decide)
  · exact fmodR _ (by decide)
  · exact fmodR _ (by decide)
  · exact fmodR _ (by decide)
  · exact fmodR _ (by decide)
theorem law_ok (c0 c1 c2 : Int) : ∃ kd texts told goes above sp head, ∃ (g P g2 P2 : Str -> Str) (L L2 : List Str), drawnD [c0, c1, c2] = .tup [.int ((kd : Nat) : Int), .list (sl texts), .list (il goes), .list (il above), .int head] /\ LawOk kd texts told goes above sp head g P g2 P2 L L2 := by
  have hk := fmodR c0 (b := 5) (by decide)
  obtain ⟨kd, hkd⟩ := Int.eq_ofNat_of_zero_le hk.1
  have k5 : kd < 5 := by omega
  let texts := takeN 6 (c0.fdiv 5) pool
  have np : pool.Nodup := by decide +kernel
  obtain ⟨tlen, tsub, tnd⟩ := takeN_ok 6 (c0.fdiv 5) pool (by decide) np
  have ok : ∀ t ∈ texts, GN (Jv.L1.esc (forms kd) t) ∧ toldS kd t = Jv.L1.esc (forms kd) t ∧ escOk (forms kd) t = true ∧ t.cps.all (· < 128) = true ∧ JoinOk "" (toldRow kd t) = true ∧ (toldRow kd t).length ≤ 100 ∧ (Jv.L1.esc (forms kd) t).length ≤ 100 := fun t m => ok_parts (ok_all k5 (tsub t m))
  let told := texts.map (toldS kd)
  have hte : told = texts.map (Jv.L1.esc (forms kd)) := List.map_congr_left fun t m => (ok t m).2.1
  have nd : told.Nodup := by
    rw [hte]
    exact map_inj tnd fun a ma b mb e => inj_of_map (un_all k5) a (tsub a ma) b (tsub b mb) e
  have tl : told.length = 6 := by
    show (texts.map _).length = 6
    rw [List.length_map]; exact tlen
  have gn : ∀ x ∈ told, GN x := fun x m => by
    rw [hte] at m
    obtain ⟨t, mt, rfl⟩ := List.mem_map.mp m
    exact (ok t mt).1
  have short : ∀ x ∈ told, x.length <= 100 := fun x m => by
    rw [hte] at m
    obtain ⟨t, mt, rfl⟩ := List.mem_map.mp m
    exact (ok t mt).2.2.2.2.2.2
  let goes : List Int := ([0, 1, 2, 3, 4, 5] : List Int).map (goesAt c1)
  let above : List Int := 0 :: digs c2 [1, 2, 3, 4, 5]
  let head := (restO c2 [1, 2, 3, 4, 5]).fmod 6
  have hg6 : ∀ k : Nat, k < 6 -> 0 <= goes.getD k 0 /\ (goes.getD k 0).toNat < 6 := fun k h => by
    have e : goes.getD k 0 = goesAt c1 (k : Int) := goes_get h
    have := goesAt_r c1 (k : Int)
    rw [e]; omega
  have hgo : ∀ (gs : List Int), ∀ k : Nat, k < 6 → getS told (gs.getD k 0) = gOf told gs (told.getD k "") := fun gs k h => by
    have e : told.getD k "" = getS told (k : Int) := rfl
    rw [e, gOf_get nd (Int.natCast_nonneg _) (by show k < told.length; omega)]
    rfl
  have clo : ∀ x ∈ told, gOf told goes x ∈ told := fun x m => by
    obtain ⟨k, h0, h6, rfl⟩ := mem_get tl m
    obtain ⟨n, rfl⟩ := Int.eq_ofNat_of_zero_le h0
    rw [gOf_get nd h0 (by omega)]
    have := hg6 n (by omega)
    exact getS_mem (by show (goes.getD n 0).toNat < told.length; omega)
  obtain ⟨pth, h, La, row⟩ := laid_map nd tl gn short clo
  obtain ⟨t1, p1⟩ := La.tree rfl hg6 (hgo goes) row (La.cyc row)
  have m1 := La.map row
  have al : above.length = 6 := by
    show (digs c2 [1, 2, 3, 4, 5]).length + 1 = 6
    rw [digs_len]; rfl
  have hr : 0 <= head /\ head < 6 := fmodR _ (by decide)
  obtain ⟨Lb, row2, du, bkr⟩ := laid_tree (head := head) nd tl gn short al (above_r c2) hr
  obtain ⟨t2, p2⟩ := Lb.tree (goes := backS told above (upK above 5 head)) (by unfold backS; rw [setAll_len]; exact al) (fun k h => by
    have := bkr (k : Int) (Int.natCast_nonneg _) (by omega)
    have e : (backS told above (upK above 5 head)).getD k 0 = getI (backS told above (upK above 5 head)) (k : Int) := rfl
    rw [e]; omega) (hgo _) row2 (Lb.cyc row2)
  have m2 := Lb.map row2
  refine ⟨kd, texts, told, goes, above, upK above 5 head, head, _, _, _, _, _, _, ?_, ⟨k5, rfl, fun t m => (ok t m).2.1, fun t m => (ok t m).2.2.1, fun t m => (ok t m).2.2.2.1, fun t m => (ok t m).2.2.2.2.1, fun t m => Nat.le_trans (ok t m).2.2.2.2.2.1 (by decide), t1, by rw [p1]; exact m1, by rw [p1]; exact La.keys, du, m2, Lb.keys, t2, p2⟩⟩
  show D.tup _ = _
  rw [<- hkd]; rfl
variable {B : Base} {k : Nat}
theorem law_true (T' : Tab9 B) (FL : FnAt B "law" law_args law_body law_scope) {script : List Int} (hsl : script.length ≤ sizeLine) : Calls B (k + 8) "law" [.list (il script)] (.bool true) := by
  have hl := addC_len (script.take 60) 0 [2415198, 8428, 442]
  match hc : addC 0 (script.take 60) [2415198, 8428, 442], hl with
  | [c0, c1, c2], _ =>
    obtain ⟨kd, texts, told, goes, above, sp, head, g, P, g2, P2, L, L2, hd, ok⟩ := law_ok c0 c1 c2
    exact c_law T' FL hsl (by rw [hc]; exact hd) ok
end Jv.L1
namespace Jv.L1
open PySem PySem.W PySem.Calls PyProof.Rows
theorem lastAddr (h : Heap) : ∀ m : Nat, (∀ b o, h.get? b = some o -> b < m) -> ∃ n, (∀ b o, h.get? b = some o -> b < n) /\ (n = 0 \/ ∃ o, h.get? (n - 1) = some o)
  | 0, hm => ⟨0, hm, .inl rfl⟩
  | m + 1, hm => by
    cases e : h.get? m with
    | some o => exact ⟨m + 1, hm, .inr ⟨o, e⟩⟩
    | none =>
      refine lastAddr h m fun b o hb => ?_
      have := hm b o hb
      rcases Nat.lt_or_ge b m with q | q
      · exact q
      · have : b = m := Nat.le_antisymm (Nat.le_of_lt_succ this) q
        subst this
        rw [e] at hb; cases hb
noncomputable def baseOf (prog : Program) (w : World) (mg mb : Str -> Option Value) (s : Shared) (n₀ : Nat) (c P : Addr) : Base :=
  { prog := prog, w := w, mg := mg, mb := mb, n₀ := n₀, os := s.os, good := fun h => Heap.ExtBut P s.heap h ∧ TabSt h c P lamPos (dueQ ++ "<lambda>") }
theorem tab_ne {h : Heap} {c P b : Addr} {o : Obj} (t : h.TableAt c P #[]) (e : h.get? b = some o) (n : o.data ≠ .fields #[]) : b ≠ P := by
  rintro rfl
  rw [t.2] at e; cases e
  exact n rfl
theorem ns_ne {h : Heap} {c P b : Addr} {m : Str -> Option Value} (t : h.TableAt c P #[]) (e : h.Ns b m) : b ≠ P := by
  obtain ⟨o, es, ep, ho, hd, _⟩ := e
  exact tab_ne t ho (by rw [hd]; simp)
theorem base_ok {q : Program} {loose : List Str} {R : WRecords} {XP : (Str -> Option Value) -> Heap -> Prop} {w : World} {s₀ s₁ : Shared} {mg mb : Str -> Option Value} {c P : Addr} (G : Ground q loose R XP w s₀ mg mb s₁.heap) (t : s₁.heap.TableAt c P #[]) (prog : Program) :
    ∃ n₀, (baseOf prog w mg mb s₁ n₀ c P).Ok := by
  refine byEA (lastAddr s₁.heap s₁.heap.objs.size fun b o e => Heap.lt_size e) fun n h1 h2 => ?_
  (refine byEA (G.T.nodigits) fun _ hp1 _ => ?_; obtain ⟨om, _, _, hom, _⟩ := hp1)
  have hlow : sysModules < n := Nat.lt_trans (by decide) (h1 _ _ hom)
  have hP : P < n := h1 _ _ t.2
  have nl := G.T.nolimit
  have cs : cStatics ≠ P := by
    obtain ⟨mc, a, _⟩ := nl
    exact ns_ne t a
  refine ⟨n, fun h h' g k => ⟨fun b o hb e => k b o (.inl (h1 b o e)) (g.1 b o hb e), g.2.step hP k⟩, fun h g => G.T.g.extBut g.1 (ns_ne t G.T.g), fun h g => G.T.b.extBut g.1 (ns_ne t G.T.b), G.T.builtins, fun h g => nl.extBut g.1 cs, hlow, fun h g => ?_⟩
  rcases h2 with h2 | ⟨o, h2⟩
  · exact Nat.le_trans (Nat.le_of_eq h2) (Nat.zero_le _)
  · have : n - 1 < h.objs.size := by
      by_cases e : n - 1 = P
      · rw [e]
        rcases g.2 with ⟨_, x⟩ | ⟨_, _, x, _⟩ <;> exact Heap.lt_size x.2
      · exact Heap.lt_size (g.1 _ _ e h2)
    exact Nat.le_of_pred_lt this
theorem fn_at {q : Program} {loose : List Str} {R : WRecords} {XP : (Str -> Option Value) -> Heap -> Prop} {w : World} {s₀ s₁ : Shared} {mg mb : Str -> Option Value} {c P : Addr} (G : Ground q loose R XP w s₀ mg mb s₁.heap) (t : s₁.heap.TableAt c P #[]) (prog : Program) (n₀ : Nat) {d : DefRec} (hd : d ∈ recsOf q) :
    FnAt (baseOf prog w mg mb s₁ n₀ c P) d.name d.params d.body d.scope := by
  obtain ⟨a, o, pm, code, doc, h1, h2, h3, h4⟩ := G.T.fn d hd
  have na : a ≠ P := tab_ne t h2 (by rw [h3]; simp)
  refine ⟨a, pm, code, doc, h1, fun h g => ⟨⟨o, g.1 _ _ na h2, h3⟩, ?_⟩⟩
  obtain ⟨c', oc, vs, tq, e1, e2, e3, e4⟩ := h4
  have nc : c' ≠ P := tab_ne t e2 (by
    rw [e3]
    intro q
    injection q with q
    rw [q] at e4; simp at e4)
  exact ⟨c', oc, vs, tq, e1, g.1 _ _ nc e2, e3, e4⟩
theorem fn_cd {prog : Program} {w : World} {s₁ : Shared} {mg mb : Str -> Option Value} {c P : Addr} (t : s₁.heap.TableAt c P #[]) (n₀ : Nat) {name : Str} {a : Addr} {o : Obj} {fd : FuncData} (hm : mg name = some (.ref a)) (ho : s₁.heap.get? a = some o) (hd : o.data = .func fd) (hc : fd.code = .ref c) :
    FnCd (baseOf prog w mg mb s₁ n₀ c P) name c := fun a' h e g => by
  have e' : mg name = some (.ref a') := e
  rw [hm] at e'; cases e'
  exact ⟨o, fd, g.1 _ _ (tab_ne t ho (by rw [hd]; simp)) ho, hd, hc⟩
theorem lam_at {q : Program} {loose : List Str} {R : WRecords} {XP : (Str -> Option Value) -> Heap -> Prop} {w : World} {s₀ s₁ : Shared} {mg mb : Str -> Option Value} {c P : Addr} (G : Ground q loose R XP w s₀ mg mb s₁.heap) (t : s₁.heap.TableAt c P #[]) (prog : Program) (n₀ : Nat) :
    LamAt (baseOf prog w mg mb s₁ n₀ c P) c P lamPos (dueQ ++ "<lambda>") := by
  have ng := ns_ne t G.T.g
  refine ⟨fun h g => g.2, fun h h' c' g hx i tt z => ⟨fun b o hb e => hx b o hb (g.1 b o hb e), .inr ⟨c', i, tt, z⟩⟩, fun h g => ?_, ng⟩
  obtain ⟨bm, ob, b1, b2, b3, b4, b5, b6⟩ := G.T.bmain
  have nb : bm ≠ P := tab_ne t b3 (by rw [b6]; simp)
  refine ⟨bm, ob, b1, b2, ?_, nb, g.1 _ _ nb b3, b4, b5, b6⟩
  rintro rfl
  obtain ⟨o, es, ep, ho, hd, _⟩ := G.T.g
  rw [b3] at ho; cases ho
  rw [b6] at hd; cases hd
noncomputable def freeB (q : Program) (loose : List Str) (x : Str) : Bool := !(startupNames.contains x) && !((looseW q loose).contains x) && !(((recsOf q).map (·.name)).contains x) && !(((litsOf q).map (·.1)).contains x) && !(((clssOf q (looseW q loose)).map (·.name)).contains x) && x != "__name__"
theorem blt_at {q : Program} {loose : List Str} {R : WRecords} {XP : (Str -> Option Value) -> Heap -> Prop} {w : World} {s₀ s₁ : Shared} {mg mb : Str -> Option Value} {c P : Addr} (G : Ground q loose R XP w s₀ mg mb s₁.heap) (prog : Program) (n₀ : Nat) {x : Str} {v : Value} (hx : freeB q loose x = true) (hv : bootBuiltins x = some v) :
    BltAt (baseOf prog w mg mb s₁ n₀ c P) x v := by
  unfold freeB at hx
  simp only [Bool.and_eq_true, Bool.not_eq_true', bne_iff_ne, List.contains_eq_mem, decide_eq_false_iff_not] at hx
  (refine byA (hx) fun hp4 h6 => ?_; (try clear hx); obtain ⟨⟨⟨⟨h1, h2⟩, h3⟩, h4⟩, h5⟩ := hp4)
  exact ⟨G.T.free x h1 h2 h3 h4 h5, hv, h6⟩
theorem old_k {s : Shared} {prog : Program} {w : World} {mg mb : Str -> Option Value} {n₀ : Nat} {c P : Addr} (t : s.heap.TableAt c P #[]) {h : Heap} (g : (baseOf prog w mg mb s n₀ c P).good h) : OldK s.heap h := by
  have hp : ∃ more, h.get? P = some { cls := .none, data := .fields (#[] ++ more) } := by
    rcases g.2 with ⟨_, x⟩ | ⟨c', _, x, _⟩
    · exact ⟨#[], x.2⟩
    · exact ⟨rowOf lamPos c', by rw [x.2]; simp⟩
  obtain ⟨more, hp⟩ := hp
  refine ⟨fun b o e => ?_, fun b o e => ?_⟩
  · by_cases hb : b = P
    · subst hb
      rw [t.2] at e; cases e
      exact .inr (.inl ⟨t.isCodeTable, rfl, #[], more, rfl, hp⟩)
    · exact .inl (g.1 b o hb e)
  · by_cases hb : b = P
    · subst hb; exact ⟨_, hp⟩
    · exact ⟨o, g.1 b o hb e⟩
theorem joinT {q : Program} {XP YP} {d : DefRec} {kwd} (hname : d.name = "law") (hdef : d.params = law_args ∧ d.body = law_body ∧ d.scope = law_scope) (hdue : ∃ r, r ∈ recsOf q ∧ r.name = "_law_due")
    (hT : ∀ {w : World} {s₀ s₁ : Shared} {mg mb : Str → Option Value} (n₀ : Nat) (c P : Addr), s₁.heap.TableAt c P #[] → Ground q [] PySem.Challenge.rw_rt0079_01.row.records XP w s₀ mg mb s₁.heap → (baseOf PySem.Challenge.rw_rt0079_01.row.prog w mg mb s₁ n₀ c P).Ok → FnCd (baseOf PySem.Challenge.rw_rt0079_01.row.prog w mg mb s₁ n₀ c P) "_law_due" c → Tab9 (baseOf PySem.Challenge.rw_rt0079_01.row.prog w mg mb s₁ n₀ c P) ∧ FnAt (baseOf PySem.Challenge.rw_rt0079_01.row.prog w mg mb s₁ n₀ c P) "law" law_args law_body law_scope) :
    WalkO q [] XP YP PySem.Challenge.rw_rt0079_01.row.toRowW d kwd fun f vs => PySem.call f vs := by
  intro w s₀ s₁ mg mb G y fa o pm cd doc dV kV ho hd hcd hD hmg hg args vals as hpre hlay hrd hwl hlo
  have hw2 := hwl
  wrow_args hpre hlay hrd hwl hlo
  rename_i ns _ _ _ _ _ _ _ la vs _ hL _ _ _ hI _ hlen _
  refine byEA hdue fun rd mrd nrd => byEE (G.T.tab rd mrd) fun ad od q => byEE q fun fdd c q => byE q fun P q => byAAAA q fun t1 t2 t3 t4 q => byA q fun t5 t6 => ?_
  rw [nrd] at t1
  refine byE (base_ok G t6 PySem.Challenge.rw_rt0079_01.row.prog) fun n₀ O => ?_
  refine byA (hT n₀ c P t6 G O (fn_cd t6 n₀ t1 t2 t3 t4)) fun T FL => ?_
  have hsl : ns.length <= sizeLine := Nat.le_trans (by omega : ns.length <= 63) (by decide)
  have rm : Room (0 + 8) callerA := ⟨by decide +kernel, by decide +kernel, fun _ => rfl⟩
  have inv : Inv (baseOf PySem.Challenge.rw_rt0079_01.row.prog w mg mb s₁ n₀ c P) callerA s₁ := ⟨⟨fun b o _ e => e, .inl ⟨t5, t6⟩⟩, hg, rfl, [], rfl, fun env m => by cases m⟩
  have ly : Lays (baseOf PySem.Challenge.rw_rt0079_01.row.prog w mg mb s₁ n₀ c P) (fun _ => False) s₁.heap [.list (il ns)] [.ref la] := by
    cases hw2 with
    | cons w1 _ =>
      cases w1 with
      | @list _ vs' _ e _ =>
        simp only [Lays, Lay]
        refine ⟨_, _, rfl, ⟨la, rfl, fun q => q.elim, vs'.toArray, ⟨_, e⟩, ?_⟩, rfl⟩
        (refine byEAAE (hL) fun o2 ho2 hc2 n2 hd2 => ?_; (try clear hL))
        rw [e] at ho2; cases ho2
        simp at hd2
        rw [hd2.1]
        exact lays_intsAre hI
  refine byEA (law_true (k := 0) T FL hsl callerA (fun _ => False) s₁ [.ref la] (fun v s' => GoodWG PySem.Challenge.rw_rt0079_01.row.claim (classAt s₀.heap) (ExcName.means s₀.heap) [ofPy (PyData.list (List.map PyData.int ns))] s₁ (.ok (.ret v)) s') (fun e s' => GoodWG PySem.Challenge.rw_rt0079_01.row.claim (classAt s₀.heap) (ExcName.means s₀.heap) [ofPy (PyData.list (List.map PyData.int ns))] s₁ (.error e) s') rm inv (fun b q => q.elim) ly fun v s' i k l => by
    obtain rfl : v = .bool true := l
    refine ⟨.inl ⟨.bool true, .bool true, [], rfl, fun cls => rfl, .bool true, ?_, fun _ => ⟨List.nodup_nil, fun a m => by cases m⟩⟩, old_k t6 i.good, i.os, .of_eq i.gens⟩
    wrow_post) fun fa' hm' H => ?_
  have e : fa' = fa := by
    have h1 : mg "law" = some (.ref fa') := hm'
    rw [hname] at hmg
    rw [hmg] at h1
    cases h1; rfl
  rw [e] at H
  exact H
noncomputable abbrev DQ := Str × Arguments × List Stmt × Scope
noncomputable def need : List DQ := [⟨"fspath", fspath_args, fspath_body, fspath_scope⟩, ⟨"_get_sep", d_get_sep_args, d_get_sep_body, d_get_sep_scope⟩, ⟨"join", join_args, join_body, join_scope⟩, ⟨"basename", basename_args, basename_body, basename_scope⟩, ⟨"dirname", dirname_args, dirname_body, dirname_scope⟩,
  ⟨"commonpath", commonpath_args, commonpath_body, commonpath_scope⟩, ⟨"sorted_list_difference", sorted_list_difference_args, sorted_list_difference_body, sorted_list_difference_scope⟩, ⟨"_escape_cdata", d_escape_cdata_args, d_escape_cdata_body, d_escape_cdata_scope⟩,
  ⟨"_escape_attrib", d_escape_attrib_args, d_escape_attrib_body, d_escape_attrib_scope⟩, ⟨"_escape_attrib_html", d_escape_attrib_html_args, d_escape_attrib_html_body, d_escape_attrib_html_scope⟩, ⟨"_escape_cdata_c14n", d_escape_cdata_c14n_args, d_escape_cdata_c14n_body, d_escape_cdata_c14n_scope⟩,
  ⟨"_escape_attrib_c14n", d_escape_attrib_c14n_args, d_escape_attrib_c14n_body, d_escape_attrib_c14n_scope⟩, ⟨"_law_drawn", d_law_drawn_args, d_law_drawn_body, d_law_drawn_scope⟩, ⟨"_law_told", d_law_told_args, d_law_told_body, d_law_told_scope⟩, ⟨"_law_written", d_law_written_args, d_law_written_body, d_law_written_scope⟩,
  ⟨"_law_tree", d_law_tree_args, d_law_tree_body, d_law_tree_scope⟩, ⟨"_law_map", d_law_map_args, d_law_map_body, d_law_map_scope⟩, ⟨"_law_due", d_law_due_args, d_law_due_body, d_law_due_scope⟩, ⟨"law", law_args, law_body, law_scope⟩]
noncomputable def strip (r : DefRec) : DQ := (r.name, r.params, r.body, r.scope)
theorem mem_all {l : List DQ} {m : List DefRec} (ix : List Nat) (h : ix.map (fun i => (m[i]?).map strip) = l.map some) : ∀ d, d ∈ l -> ∃ r, r ∈ m /\ strip r = d := by
  intro d hd
  have : some d ∈ ix.map (fun i => (m[i]?).map strip) := by rw [h]; exact List.mem_map_of_mem hd
  refine byEA (List.mem_map.mp this) fun i _ e => ?_
  refine byEA (Option.map_eq_some_iff.mp e) fun r hr e' => ?_
  exact ⟨r, List.mem_of_getElem? hr, e'⟩
theorem boot_all : ∀ x v, bltOf.lookup x = some v -> x ∈ bltOf.map (·.1) /\ bootBuiltins x = some v := by
  have h : ∀ p, p ∈ bltOf -> bootBuiltins p.1 = some p.2 := by
    intro p m
    unfold bltOf at m
    simp only [List.mem_cons, List.not_mem_nil, or_false] at m
    rcases m with rfl | rfl | rfl | rfl | rfl | rfl | rfl | rfl | rfl | rfl | rfl | rfl | rfl | rfl | rfl | rfl | rfl <;> kernel_rfl
  intro x v e
  have m := mem_of_lookup e
  exact ⟨List.mem_map.mpr ⟨_, m, rfl⟩, h _ m⟩
theorem fns_mem : ∀ f p b s, fns.lookup f = some (p, b, s) -> ((f, p, b, s) : DQ) ∈ need := by
  intro f p b s e
  have h : [7, 10, 8, 11, 9].map (fun i => need[i]?) = List.map some fns := rfl
  have m := List.mem_map_of_mem (f := some) (mem_of_lookup e)
  rw [<- h] at m
  refine byEA (List.mem_map.mp m) fun i _ e => ?_
  exact List.mem_of_getElem? e
theorem tab_of {q : Program} {R : WRecords} {XP : (Str -> Option Value) -> Heap -> Prop} {w : World} {s₀ s₁ : Shared} {mg mb : Str -> Option Value} (hm : ∀ d, d ∈ need -> ∃ r, r ∈ recsOf q /\ strip r = d) (hf : (bltOf.map (·.1)).all (freeB q []) = true)
    (prog : Program) (n₀ : Nat) (c P : Addr) (t : s₁.heap.TableAt c P #[]) (G : Ground q [] R XP w s₀ mg mb s₁.heap) (O : (baseOf prog w mg mb s₁ n₀ c P).Ok) (fc : FnCd (baseOf prog w mg mb s₁ n₀ c P) "_law_due" c) : Tab9 (baseOf prog w mg mb s₁ n₀ c P) ∧ FnAt (baseOf prog w mg mb s₁ n₀ c P) "law" law_args law_body law_scope := by
  have F : ∀ d : DQ, d ∈ need -> FnAt (baseOf prog w mg mb s₁ n₀ c P) d.1 d.2.1 d.2.2.1 d.2.2.2 := fun d m => by
    (refine byEA (hm d m) fun r hr hq1 => ?_; subst hq1)
    exact fn_at G t prog n₀ hr
  have mk : ∀ (i : Nat) (d : DQ), need[i]? = some d -> FnAt (baseOf prog w mg mb s₁ n₀ c P) d.1 d.2.1 d.2.2.1 d.2.2.2 := fun i d e => F d (List.mem_of_getElem? e)
  refine ⟨?_, mk 18 _ rfl⟩
  exact { O := O, sep := mk 1 _ rfl, fspath := mk 0 _ rfl, join := mk 2 _ rfl, basename := mk 3 _ rfl, dirname := mk 4 _ rfl, commonpath := mk 5 _ rfl, blt := fun x f e => blt_at G prog n₀ (List.all_eq_true.mp hf x (boot_all x f e).1) (boot_all x f e).2,
          fn := fun f p b s e => F _ (fns_mem f p b s e), written := mk 14 _ rfl, told := mk 13 _ rfl, drawn := mk 12 _ rfl, tree := mk 15 _ rfl, map := mk 16 _ rfl, due := mk 17 _ rfl, sld := mk 6 _ rfl, lam := ⟨c, P, fc, lam_at G t prog n₀⟩ }
theorem due_of {q : Program} (hm : ∀ d, d ∈ need → ∃ r, r ∈ recsOf q ∧ strip r = d) : ∃ r, r ∈ recsOf q ∧ r.name = "_law_due" := by
  refine byEA (hm _ (List.mem_of_getElem? (i := 17) rfl)) fun r hr e => ?_
  exact ⟨r, hr, congrArg (·.1) e⟩
end Jv.L1
open PySem PySem.W PyProof.Rows
set_option maxHeartbeats 8000000 in
theorem PySem.Challenge.cw_rt0079_01_holds : PySem.Challenge.rw_rt0079_01.Holds := by
  w_on; o_law; o_head Hook.none; (case hw => w_witness2)
  refine Jv.L1.joinT (by kernel_rfl) ?_ (Jv.L1.due_of (Jv.L1.mem_all [4, 6, 7, 8, 9, 10, 1, 12, 13, 14, 15, 16, 17, 18, 19, 20, 21, 22, 23] (by kernel_rfl))) (fun n₀ c P t G O fc => Jv.L1.tab_of (Jv.L1.mem_all [4, 6, 7, 8, 9, 10, 1, 12, 13, 14, 15, 16, 17, 18, 19, 20, 21, 22, 23] (by kernel_rfl)) (by kernel_rfl) _ n₀ c P t G O fc)
  exact ⟨by kernel_rfl, by kernel_rfl, by kernel_rfl⟩
