import PyProof.Rows.All
import PyProof.Conv_int
import PyProof.StrCalls
import PyProof.SetRoads
import PyProof.Rows.SetFrom
import Open.Line
import KE.IntTextText
import Lean
import PySem.Challenge.RW_rt0079_02
set_option maxRecDepth 100000
set_option linter.unusedVariables false
set_option Elab.async false
namespace Jv
open PySem PySem.W PySem.Calls PyProof.Rows
theorem byA  {p0 : Prop} {p1 : Prop} {c : Prop} (h : p0 ∧ p1) (k : p0 → p1 → c) : c := k h.1 h.2
theorem byE.{u0} {α0 : Sort u0} {p1 : α0 → Prop} {c : Prop} (h : ∃ x0, (p1 x0)) (k : ∀ x0 : α0, (p1 x0) → c) : c := h.elim fun a0 h0 => k a0 h0
theorem byAA  {p0 : Prop} {p1 : Prop} {p2 : Prop} {c : Prop} (h : p0 ∧ p1 ∧ p2) (k : p0 → p1 → p2 → c) : c := k h.1 h.2.1 h.2.2
theorem byEA.{u0} {α0 : Sort u0} {p1 : α0 → Prop} {p2 : α0 → Prop} {c : Prop} (h : ∃ x0, (p1 x0) ∧ (p2 x0)) (k : ∀ x0 : α0, (p1 x0) → (p2 x0) → c) : c := h.elim fun a0 h0 => k a0 h0.1 h0.2
theorem byEE.{u0, u1} {α0 : Sort u0} {α1 : Sort u1} {p2 : α0 → α1 → Prop} {c : Prop} (h : ∃ x0, ∃ x1, (p2 x0 x1)) (k : ∀ x0 : α0, ∀ x1 : α1, (p2 x0 x1) → c) : c := h.elim fun a0 h0 => h0.elim fun a1 h1 => k a0 a1 h1
theorem byAAA  {p0 : Prop} {p1 : Prop} {p2 : Prop} {p3 : Prop} {c : Prop} (h : p0 ∧ p1 ∧ p2 ∧ p3) (k : p0 → p1 → p2 → p3 → c) : c := k h.1 h.2.1 h.2.2.1 h.2.2.2
theorem byEAA.{u0} {α0 : Sort u0} {p1 : α0 → Prop} {p2 : α0 → Prop} {p3 : α0 → Prop} {c : Prop} (h : ∃ x0, (p1 x0) ∧ (p2 x0) ∧ (p3 x0)) (k : ∀ x0 : α0, (p1 x0) → (p2 x0) → (p3 x0) → c) : c := h.elim fun a0 h0 => k a0 h0.1 h0.2.1 h0.2.2
theorem byEEA.{u0, u1} {α0 : Sort u0} {α1 : Sort u1} {p2 : α0 → α1 → Prop} {p3 : α0 → α1 → Prop} {c : Prop} (h : ∃ x0, ∃ x1, (p2 x0 x1) ∧ (p3 x0 x1)) (k : ∀ x0 : α0, ∀ x1 : α1, (p2 x0 x1) → (p3 x0 x1) → c) : c := h.elim fun a0 h0 => h0.elim fun a1 h1 => k a0 a1 h1.1 h1.2
theorem byAAAA  {p0 : Prop} {p1 : Prop} {p2 : Prop} {p3 : Prop} {p4 : Prop} {c : Prop} (h : p0 ∧ p1 ∧ p2 ∧ p3 ∧ p4) (k : p0 → p1 → p2 → p3 → p4 → c) : c := k h.1 h.2.1 h.2.2.1 h.2.2.2.1 h.2.2.2.2
theorem byEAAA.{u0} {α0 : Sort u0} {p1 : α0 → Prop} {p2 : α0 → Prop} {p3 : α0 → Prop} {p4 : α0 → Prop} {c : Prop} (h : ∃ x0, (p1 x0) ∧ (p2 x0) ∧ (p3 x0) ∧ (p4 x0)) (k : ∀ x0 : α0, (p1 x0) → (p2 x0) → (p3 x0) → (p4 x0) → c) : c := h.elim fun a0 h0 => k a0 h0.1 h0.2.1 h0.2.2.1 h0.2.2.2
theorem byEAAE.{u0, u3} {α0 : Sort u0} {α3 : Sort u3} {p1 : α0 → Prop} {p2 : α0 → Prop} {p4 : α0 → α3 → Prop} {c : Prop} (h : ∃ x0, (p1 x0) ∧ (p2 x0) ∧ (∃ x3, (p4 x0 x3))) (k : ∀ x0 : α0, (p1 x0) → (p2 x0) → ∀ x3 : α3, (p4 x0 x3) → c) : c := h.elim fun a0 h0 => h0.2.2.elim fun a3 h3 => k a0 h0.1 h0.2.1 a3 h3
theorem byEEAA.{u0, u1} {α0 : Sort u0} {α1 : Sort u1} {p2 : α0 → α1 → Prop} {p3 : α0 → α1 → Prop} {p4 : α0 → α1 → Prop} {c : Prop} (h : ∃ x0, ∃ x1, (p2 x0 x1) ∧ (p3 x0 x1) ∧ (p4 x0 x1)) (k : ∀ x0 : α0, ∀ x1 : α1, (p2 x0 x1) → (p3 x0 x1) → (p4 x0 x1) → c) : c := h.elim fun a0 h0 => h0.elim fun a1 h1 => k a0 a1 h1.1 h1.2.1 h1.2.2
theorem byAEEAA.{u1, u2} {α1 : Sort u1} {α2 : Sort u2} {p0 : Prop} {p3 : α1 → α2 → Prop} {p4 : α1 → α2 → Prop} {p5 : α1 → α2 → Prop} {c : Prop} (h : p0 ∧ (∃ x1, ∃ x2, (p3 x1 x2) ∧ (p4 x1 x2) ∧ (p5 x1 x2))) (k : p0 → ∀ x1 : α1, ∀ x2 : α2, (p3 x1 x2) → (p4 x1 x2) → (p5 x1 x2) → c) : c := h.2.elim fun a1 h1 => h1.elim fun a2 h2 => k h.1 a1 a2 h2.1 h2.2.1 h2.2.2
theorem byEAAEA.{u0, u3} {α0 : Sort u0} {α3 : Sort u3} {p1 : α0 → Prop} {p2 : α0 → Prop} {p4 : α0 → α3 → Prop} {p5 : α0 → α3 → Prop} {c : Prop} (h : ∃ x0, (p1 x0) ∧ (p2 x0) ∧ (∃ x3, (p4 x0 x3) ∧ (p5 x0 x3))) (k : ∀ x0 : α0, (p1 x0) → (p2 x0) → ∀ x3 : α3, (p4 x0 x3) → (p5 x0 x3) → c) : c := h.elim fun a0 h0 => h0.2.2.elim fun a3 h3 => k a0 h0.1 h0.2.1 a3 h3.1 h3.2
theorem byEEAAA.{u0, u1} {α0 : Sort u0} {α1 : Sort u1} {p2 : α0 → α1 → Prop} {p3 : α0 → α1 → Prop} {p4 : α0 → α1 → Prop} {p5 : α0 → α1 → Prop} {c : Prop} (h : ∃ x0, ∃ x1, (p2 x0 x1) ∧ (p3 x0 x1) ∧ (p4 x0 x1) ∧ (p5 x0 x1)) (k : ∀ x0 : α0, ∀ x1 : α1, (p2 x0 x1) → (p3 x0 x1) → (p4 x0 x1) → (p5 x0 x1) → c) : c := h.elim fun a0 h0 => h0.elim fun a1 h1 => k a0 a1 h1.1 h1.2.1 h1.2.2.1 h1.2.2.2
theorem byEAEAAA.{u0, u2} {α0 : Sort u0} {α2 : Sort u2} {p1 : α0 → Prop} {p3 : α0 → α2 → Prop} {p4 : α0 → α2 → Prop} {p5 : α0 → α2 → Prop} {p6 : α0 → α2 → Prop} {c : Prop} (h : ∃ x0, (p1 x0) ∧ (∃ x2, (p3 x0 x2) ∧ (p4 x0 x2) ∧ (p5 x0 x2) ∧ (p6 x0 x2))) (k : ∀ x0 : α0, (p1 x0) → ∀ x2 : α2, (p3 x0 x2) → (p4 x0 x2) → (p5 x0 x2) → (p6 x0 x2) → c) : c := h.elim fun a0 h0 => h0.2.elim fun a2 h2 => k a0 h0.1 a2 h2.1 h2.2.1 h2.2.2.1 h2.2.2.2
theorem byAEEEAAA.{u1, u2, u3} {α1 : Sort u1} {α2 : Sort u2} {α3 : Sort u3} {p0 : Prop} {p4 : α1 → α2 → α3 → Prop} {p5 : α1 → α2 → α3 → Prop} {p6 : α1 → α2 → α3 → Prop} {p7 : α1 → α2 → α3 → Prop} {c : Prop} (h : p0 ∧ (∃ x1, ∃ x2, ∃ x3, (p4 x1 x2 x3) ∧ (p5 x1 x2 x3) ∧ (p6 x1 x2 x3) ∧ (p7 x1 x2 x3))) (k : p0 → ∀ x1 : α1, ∀ x2 : α2, ∀ x3 : α3, (p4 x1 x2 x3) → (p5 x1 x2 x3) → (p6 x1 x2 x3) → (p7 x1 x2 x3) → c) : c := h.2.elim fun a1 h1 => h1.elim fun a2 h2 => h2.elim fun a3 h3 => k h.1 a1 a2 a3 h3.1 h3.2.1 h3.2.2.1 h3.2.2.2
inductive D where
  | none | bool (b : Bool) | int (i : Int) | str (s : Str) | ty (T : String) | list (l : List D) | tup (l : List D) | dict (l : List (Str × D))
structure Base where
  prog : Program
  w : World
  mg : Str → Option Value
  mb : Str → Option Value
  n₀ : Nat
  os : OsState
  good : Heap → Prop
noncomputable abbrev Base.M (B : Base) : Model := model B.prog B.w
structure Base.Ok (B : Base) : Prop where
  step : ∀ h h', B.good h → (∀ b o, b < B.n₀ → h.get? b = some o → h'.get? b = some o) → B.good h'
  g : ∀ h, B.good h → h.Ns mainGlobals B.mg
  b : ∀ h, B.good h → h.Ns builtinsNs B.mb
  blt : ∀ x : Str, x ≠ "__name__" → B.mb x = bootBuiltins x
  nolimit : ∀ h, B.good h → h.NoLimit
  low : sysModules < B.n₀
  size : ∀ h, B.good h → B.n₀ ≤ h.objs.size
noncomputable def Frames (B : Base) (A : Around) (h : Heap) : Prop :=
  ∃ l, A.frames = some l ∧ ∀ env ∈ l, env.scope.kind ≠ .module ∧ ∃ L o es ep, env.frame = some L ∧ B.n₀ ≤ L ∧ h.get? L = some o ∧ o.cls = .type "frame" ∧ o.data = .dict es ep
structure Inv (B : Base) (A : Around) (s : Shared) : Prop where
  good : B.good s.heap
  gens : s.gens = #[]
  os : s.os = B.os
  fr : Frames B A s.heap
structure Room (k : Nat) (A : Around) : Prop where
  depth : A.depth + k < 1000
  units : A.units + 40 * k + 100 < 9900
  handled : 0 < k → A.handled = none
noncomputable def Kept (h' : Heap) (b : Addr) (o : Obj) : Prop :=
  h'.get? b = some o ∨ (o.cls = .type "frame" ∧ ∃ sl, h'.get? b = some { o with slots := sl }) ∨ (o.cls = .none ∧ ∃ o', h'.get? b = some o')
noncomputable def Kp (h h' : Heap) : Prop := ∀ b o, h.get? b = some o → Kept h' b o
noncomputable def KpOff (W : Addr → Prop) (h h' : Heap) : Prop := ∀ b o, ¬ W b → h.get? b = some o → Kept h' b o
theorem Kp.refl (h : Heap) : Kp h h := fun _ _ e => .inl e
theorem Kp.of {h h' : Heap} (k : ∀ b o, h.get? b = some o → h'.get? b = some o) : Kp h h' := fun b o e => .inl (k b o e)
theorem Kept.ex {h' : Heap} {b : Addr} {o : Obj} (k : Kept h' b o) : ∃ o', h'.get? b = some o' := by
  rcases k with k | ⟨_, sl, k⟩ | ⟨_, o', k⟩
  · exact ⟨_, k⟩
  · exact ⟨_, k⟩
  · exact ⟨_, k⟩
theorem Kept.exact {h' : Heap} {b : Addr} {o : Obj} (k : Kept h' b o) (h1 : o.cls ≠ .type "frame") (h2 : o.cls ≠ .none) : h'.get? b = some o := by
  rcases k with k | ⟨c, _⟩ | ⟨c, _⟩
  · exact k
  · exact absurd c h1
  · exact absurd c h2
theorem Kp.off {h h' : Heap} (k : Kp h h') (W : Addr → Prop) : KpOff W h h' := fun b o _ e => k b o e
theorem KpOff.trans {W W' : Addr → Prop} {h₁ h₂ h₃ : Heap} (x : KpOff W h₁ h₂) (y : KpOff W' h₂ h₃) (hw : ∀ b o, W' b → h₁.get? b = some o → W b) : KpOff W h₁ h₃ := by
  intro b o hb e
  have hb' : ¬ W' b := fun q => hb (hw b o q e)
  rcases x b o hb e with k | ⟨c, sl, k⟩ | ⟨c, o', k⟩
  · exact y b o hb' k
  · rcases y b _ hb' k with k' | ⟨_, sl', k'⟩ | ⟨c', _⟩
    · exact .inr (.inl ⟨c, sl, k'⟩)
    · exact .inr (.inl ⟨c, sl', k'⟩)
    · exact absurd (c.symm.trans c') (by simp)
  · exact .inr (.inr ⟨c, (y b o' hb' k).ex⟩)
theorem Kp.trans {h₁ h₂ h₃ : Heap} (x : Kp h₁ h₂) (y : Kp h₂ h₃) : Kp h₁ h₃ := fun b o e =>
  (KpOff.trans (W := fun _ => False) (W' := fun _ => False) (x.off _) (y.off _) fun _ _ f _ => f) b o (fun f => f) e
theorem Kp.trans_off {W : Addr → Prop} {h₁ h₂ h₃ : Heap} (x : Kp h₁ h₂) (y : KpOff W h₂ h₃) (n : ∀ b o, h₁.get? b = some o → ¬ W b) : Kp h₁ h₃ := fun b o e =>
  (KpOff.trans (W := W) (W' := W) (x.off _) y fun _ _ f _ => f) b o (n b o e) e
theorem Frames.off {B : Base} {A : Around} {h h' : Heap} (x : Frames B A h) (k : Kp h h') : Frames B A h' := by
  (refine byEA (x) fun l e hl => ?_; (try clear x))
  refine ⟨l, e, fun env he => ?_⟩
  (refine byA (hl env he) fun hk hr1 => ?_; refine byEE (hr1) fun L o hr2 => ?_; (try clear hr1); refine byEEAAA (hr2) fun es ep h1 h2 h3 hr3 => ?_; (try clear hr2); refine byA (hr3) fun h4 h5 => ?_; (try clear hr3))
  rcases k L o h3 with k | ⟨c, sl, k⟩ | ⟨c, _⟩
  · exact ⟨hk, L, o, es, ep, h1, h2, k, h4, h5⟩
  · exact ⟨hk, L, _, es, ep, h1, h2, k, h4, h5⟩
  · rw [h4] at c; cases c
theorem Inv.keep {B : Base} (O : B.Ok) {A : Around} {s : Shared} (I : Inv B A s) {h' : Heap} {tk : Nat} (k : ∀ b o, s.heap.get? b = some o → h'.get? b = some o) : Inv B A { s with heap := h', toks := tk } :=
  ⟨O.step _ _ I.good fun b o _ e => k b o e, I.gens, I.os, I.fr.off (.of k)⟩
theorem Inv.tok {B : Base} {A : Around} {s : Shared} (I : Inv B A s) (tk : Nat) : Inv B A { s with toks := tk } := ⟨I.good, I.gens, I.os, I.fr⟩
noncomputable def IsData (o : Obj) : Prop := o.cls = .type "list" ∨ o.cls = .type "tuple" ∨ o.cls = .type "dict" ∨ o.cls = .type "set"
theorem IsData.kept {h' : Heap} {b : Addr} {o : Obj} (i : IsData o) (k : Kept h' b o) : h'.get? b = some o :=
  k.exact (by rcases i with e | e | e | e <;> rw [e] <;> simp) (by rcases i with e | e | e | e <;> rw [e] <;> simp)
noncomputable def IsPriv (o : Obj) : Prop := ¬ IsData o ∧ o.cls ≠ .type "frame" ∧ o.cls ≠ .type "cell"
noncomputable def KeptQ (h' : Heap) (b : Addr) (o : Obj) : Prop :=
  h'.get? b = some o ∨ (o.cls = .type "frame" ∧ ∃ sl, h'.get? b = some { o with slots := sl }) ∨ IsPriv o
noncomputable def Kq (h h' : Heap) : Prop := ∀ b o, h.get? b = some o → KeptQ h' b o
theorem Kept.q {h' : Heap} {b : Addr} {o : Obj} (k : Kept h' b o) : KeptQ h' b o := by
  rcases k with k | k | ⟨c, k⟩
  · exact .inl k
  · exact .inr (.inl k)
  · exact .inr (.inr ⟨fun i => by rcases i with e | e | e | e <;> (rw [c] at e; cases e), by rw [c]; simp, by rw [c]; simp⟩)
theorem Kp.q {h h' : Heap} (k : Kp h h') : Kq h h' := fun b o e => (k b o e).q
theorem KeptQ.ex {h' : Heap} {b : Addr} {o : Obj} (k : KeptQ h' b o) (n : ¬ IsPriv o) : ∃ o', h'.get? b = some o' ∧ ¬ IsPriv o' := by
  rcases k with k | ⟨c, sl, k⟩ | k
  · exact ⟨_, k, n⟩
  · exact ⟨_, k, fun q => q.2.1 c⟩
  · exact absurd k n
theorem IsData.nf {o : Obj} (i : IsData o) : o.cls ≠ .type "frame" ∧ o.cls ≠ .type "cell" := by
  rcases i with e | e | e | e <;> rw [e] <;> simp
theorem IsData.keptQ {h' : Heap} {b : Addr} {o : Obj} (i : IsData o) (k : KeptQ h' b o) : h'.get? b = some o := by
  rcases k with k | ⟨c, _⟩ | c
  · exact k
  · exact absurd c i.nf.1
  · exact absurd i c.1
noncomputable def PlainTup (h : Heap) (a : Addr) (items : Array Value) : Prop := ∃ n, h.get? a = some { cls := .type "tuple", data := .seq items n }
theorem PlainTup.isTuple {h : Heap} {a : Addr} {items : Array Value} (x : PlainTup h a items) : h.IsTuple a items := let ⟨n, e⟩ := x; ⟨_, e, rfl, n, rfl⟩
section
variable (B : Base) (V : Addr → Prop) (h : Heap)
mutual
noncomputable def Lay : D → Value → Prop
  | .none, v => v = .none
  | .bool b, v => v = .bool b
  | .int i, v => ∃ t, v = .int i t
  | .str x, v => ∃ t, v = .str x t
  | .ty T, v => v = .type T
  | .list l, v => ∃ a, v = .ref a ∧ ¬ V a ∧ ∃ items, h.PlainList a items ∧ Lays l items.toList
  | .tup l, v => ∃ a, v = .ref a ∧ ¬ V a ∧ ∃ items, PlainTup h a items ∧ Lays l items.toList
  | .dict l, v => ∃ a, v = .ref a ∧ ¬ V a ∧ B.n₀ ≤ a ∧ ∃ kvs, h.DictOf (strKind B.prog B.w) a kvs ∧ Layd l kvs
noncomputable def Lays : List D → List Value → Prop
  | [], vs => vs = []
  | d :: l, vs => ∃ v r, vs = v :: r ∧ Lay d v ∧ Lays l r
noncomputable def Layd : List (Str × D) → List (Str × Value) → Prop
  | [], vs => vs = []
  | (x, d) :: l, vs => ∃ v r, vs = (x, v) :: r ∧ Lay d v ∧ Layd l r
end
noncomputable def Content : D → Addr → Prop
  | .list l, a => ∃ items, h.PlainList a items ∧ Lays B V h l items.toList
  | .tup l, a => ∃ items, PlainTup h a items ∧ Lays B V h l items.toList
  | .dict l, a => B.n₀ ≤ a ∧ ∃ kvs, h.DictOf (strKind B.prog B.w) a kvs ∧ Layd B V h l kvs
  | _, _ => False
end
section
variable {B : Base} {V V' : Addr → Prop} {h h' : Heap}
mutual
theorem Lay.mono (K : ∀ b o, ¬ V b → h.get? b = some o → IsData o → ¬ V' b ∧ h'.get? b = some o) : ∀ {d : D} {v : Value}, Lay B V h d v → Lay B V' h' d v
  | .none, _, x => x
  | .bool _, _, x => x
  | .int _, _, x => x
  | .str _, _, x => x
  | .ty _, _, x => x
  | .list l, v, x => by
    simp only [Lay] at x ⊢
    (refine byEAAEA (x) fun a e na items hp4 r => ?_; (try clear x); obtain ⟨n, ho⟩ := hp4)
    have z := K a _ na ho (.inl rfl)
    exact ⟨a, e, z.1, items, ⟨n, z.2⟩, Lays.mono K r⟩
  | .tup l, v, x => by
    simp only [Lay] at x ⊢
    (refine byEAAEA (x) fun a e na items hp5 r => ?_; (try clear x); obtain ⟨n, ho⟩ := hp5)
    have z := K a _ na ho (.inr (.inl rfl))
    exact ⟨a, e, z.1, items, ⟨n, z.2⟩, Lays.mono K r⟩
  | .dict l, v, x => by
    simp only [Lay] at x ⊢
    (refine byEAAA (x) fun a e na lo hr6 => ?_; (try clear x); refine byEA (hr6) fun kvs hp7 r => ?_; (try clear hr6); obtain ⟨o, es, ep, ho, hx, hd⟩ := hp7)
    have z := K a o na ho (.inr (.inr (.inl hx.1)))
    exact ⟨a, e, z.1, lo, kvs, ⟨o, es, ep, z.2, hx, hd⟩, Layd.mono K r⟩
theorem Lays.mono (K : ∀ b o, ¬ V b → h.get? b = some o → IsData o → ¬ V' b ∧ h'.get? b = some o) : ∀ {l : List D} {vs : List Value}, Lays B V h l vs → Lays B V' h' l vs
  | [], _, x => x
  | d :: l, vs, x => by
    simp only [Lays] at x ⊢
    (refine byEEAA (x) fun v r e y z => ?_; (try clear x))
    exact ⟨v, r, e, Lay.mono K y, Lays.mono K z⟩
theorem Layd.mono (K : ∀ b o, ¬ V b → h.get? b = some o → IsData o → ¬ V' b ∧ h'.get? b = some o) : ∀ {l : List (Str × D)} {vs : List (Str × Value)}, Layd B V h l vs → Layd B V' h' l vs
  | [], _, x => x
  | (k, d) :: l, vs, x => by
    simp only [Layd] at x ⊢
    (refine byEEAA (x) fun v r e y z => ?_; (try clear x))
    exact ⟨v, r, e, Lay.mono K y, Layd.mono K z⟩
end
theorem kpK (k : Kp h h') : ∀ b o, ¬ V b → h.get? b = some o → IsData o → ¬ V b ∧ h'.get? b = some o := fun b o nb e i => And.intro nb (IsData.kept i (k b o e))
theorem offK {W : Addr → Prop} (k : KpOff W h h') (hW : ∀ b, W b → V b) (hV : ∀ b, V' b → V b ∨ h.get? b = none) : ∀ b o, ¬ V b → h.get? b = some o → IsData o → ¬ V' b ∧ h'.get? b = some o :=
  fun b o nb e i => ⟨fun q => (hV b q).elim nb (fun z => by rw [e] at z; exact nomatch z), i.kept (k b o (fun q => nb (hW b q)) e)⟩
theorem kqK (k : Kq h h') : ∀ b o, ¬ V b → h.get? b = some o → IsData o → ¬ V b ∧ h'.get? b = some o := fun b o nb e i => And.intro nb (IsData.keptQ i (k b o e))
theorem Lay.kq {d : D} {v : Value} (x : Lay B V h d v) (k : Kq h h') : Lay B V h' d v := x.mono (kqK k)
theorem Lays.kq {d : List D} {v : List Value} (x : Lays B V h d v) (k : Kq h h') : Lays B V h' d v := x.mono (kqK k)
theorem Lay.kp {d : D} {v : Value} (x : Lay B V h d v) (k : Kp h h') : Lay B V h' d v := x.mono (kpK k)
theorem Lays.kp {d : List D} {v : List Value} (x : Lays B V h d v) (k : Kp h h') : Lays B V h' d v := x.mono (kpK k)
theorem Content.mono (K : ∀ b o, ¬ V b → h.get? b = some o → IsData o → ¬ V' b ∧ h'.get? b = some o) {d : D} {a : Addr} (hr : ∀ o, h.get? a = some o → IsData o → h'.get? a = some o) (x : Content B V h d a) : Content B V' h' d a := by
  cases d with
  | list l =>
    (refine byEA (x) fun items hp8 r => ?_; (try clear x); obtain ⟨n, ho⟩ := hp8)
    exact ⟨items, ⟨n, hr _ ho (.inl rfl)⟩, r.mono K⟩
  | tup l =>
    (refine byEA (x) fun items hp9 r => ?_; (try clear x); obtain ⟨n, ho⟩ := hp9)
    exact ⟨items, ⟨n, hr _ ho (.inr (.inl rfl))⟩, r.mono K⟩
  | dict l =>
    (refine byA (x) fun lo hr10 => ?_; (try clear x); refine byEA (hr10) fun kvs hp11 r => ?_; (try clear hr10); obtain ⟨o, es, ep, ho, hx, hd⟩ := hp11)
    exact ⟨lo, kvs, ⟨o, es, ep, hr o ho (.inr (.inr (.inl hx.1))), hx, hd⟩, r.mono K⟩
  | _ => exact x.elim
theorem Content.kp {d : D} {a : Addr} (x : Content B V h d a) (k : Kp h h') : Content B V h' d a := x.mono (kpK k) fun o e i => i.kept (k a o e)
theorem Content.kq {d : D} {a : Addr} (x : Content B V h d a) (k : Kq h h') : Content B V h' d a := x.mono (kqK k) fun o e i => i.keptQ (k a o e)
theorem Content.there {d : D} {a : Addr} (x : Content B V h d a) : ∃ o, h.get? a = some o ∧ IsData o := by
  cases d with
  | list l => (refine byEA (x) fun items hp12 r => ?_; (try clear x); obtain ⟨n, ho⟩ := hp12); exact ⟨_, ho, .inl rfl⟩
  | tup l => (refine byEA (x) fun items hp13 r => ?_; (try clear x); obtain ⟨n, ho⟩ := hp13); exact ⟨_, ho, .inr (.inl rfl)⟩
  | dict l => (refine byA (x) fun lo hr14 => ?_; (try clear x); refine byEA (hr14) fun kvs hp15 r => ?_; (try clear hr14); obtain ⟨o, es, ep, ho, hx, hd⟩ := hp15); exact ⟨o, ho, .inr (.inr (.inl hx.1))⟩
  | _ => exact x.elim
theorem Content.lay {d : D} {a : Addr} (x : Content B V h d a) (na : ¬ V a) : Lay B V h d (.ref a) := by
  cases d with
  | list l => simp only [Lay]; exact ⟨a, rfl, na, x⟩
  | tup l => simp only [Lay]; exact ⟨a, rfl, na, x⟩
  | dict l => simp only [Lay]; exact ⟨a, rfl, na, x⟩
  | _ => exact x.elim
noncomputable def LayB (B : Base) (V : Addr → Prop) (h : Heap) (d : D) (v : Value) : Prop := Lay B V h d v ∨ ∃ a, v = .ref a ∧ Content B V h d a
theorem LayB.kp {d : D} {v : Value} (x : LayB B V h d v) (k : Kp h h') : LayB B V h' d v := x.imp (·.kp k) fun ⟨a, e, c⟩ => ⟨a, e, c.kp k⟩
theorem LayB.asList {l : List D} {v : Value} (x : LayB B V h (.list l) v) : ∃ a items, v = .ref a ∧ h.PlainList a items ∧ Lays B V h l items.toList := by
  rcases x with x | ⟨a, e, items, r⟩
  · simp only [Lay] at x; (refine byEAAE (x) fun a e _ items r => ?_; (try clear x)); exact ⟨a, items, e, r⟩
  · exact ⟨a, items, e, r⟩
theorem LayB.asTup {l : List D} {v : Value} (x : LayB B V h (.tup l) v) : ∃ a items, v = .ref a ∧ PlainTup h a items ∧ Lays B V h l items.toList := by
  rcases x with x | ⟨a, e, items, r⟩
  · simp only [Lay] at x; (refine byEAAE (x) fun a e _ items r => ?_; (try clear x)); exact ⟨a, items, e, r⟩
  · exact ⟨a, items, e, r⟩
theorem LayB.asInt {i : Int} {v : Value} (x : LayB B V h (.int i) v) : ∃ t, v = .int i t := by
  rcases x with x | ⟨a, e, r⟩
  · simpa only [Lay] using x
  · exact r.elim
theorem LayB.asStr {i : Str} {v : Value} (x : LayB B V h (.str i) v) : ∃ t, v = .str i t := by
  rcases x with x | ⟨a, e, r⟩
  · simpa only [Lay] using x
  · exact r.elim
theorem LayB.asBool {i : Bool} {v : Value} (x : LayB B V h (.bool i) v) : v = .bool i := by
  rcases x with x | ⟨a, e, r⟩
  · simpa only [Lay] using x
  · exact r.elim
theorem Lays.get {l : List D} : ∀ {vs : List Value} {i : Nat} {d : D}, Lays B V h l vs → l[i]? = some d → ∃ v, vs[i]? = some v ∧ Lay B V h d v := by
  induction l with
  | nil => intro vs i d _ e; simp at e
  | cons x l ih =>
    intro vs i d z e
    simp only [Lays] at z
    (refine byEEA (z) fun v r hq17 hr18 => ?_; (try clear z); subst hq17; refine byA (hr18) fun y z => ?_; (try clear hr18))
    cases i with
    | zero => simp at e; subst e; exact ⟨v, by simp, y⟩
    | succ i => simp at e; refine byEA (ih z e) fun v' a b => ?_; exact ⟨v', by simpa using a, b⟩
theorem Lays.length : ∀ {l : List D} {vs : List Value}, Lays B V h l vs → vs.length = l.length
  | [], vs, x => by simp only [Lays] at x; subst x; rfl
  | d :: l, vs, x => by simp only [Lays] at x; (refine byEEA (x) fun v r hq19 hr20 => ?_; (try clear x); subst hq19; refine byA (hr20) fun y z => ?_; (try clear hr20)); simp [Lays.length z]
theorem Lays.append : ∀ {l l' : List D} {vs vs' : List Value}, Lays B V h l vs → Lays B V h l' vs' → Lays B V h (l ++ l') (vs ++ vs')
  | [], l', vs, vs', x, y => by simp only [Lays] at x; subst x; exact y
  | d :: l, l', vs, vs', x, y => by
    simp only [Lays] at x
    (refine byEEA (x) fun v r hq21 hr22 => ?_; (try clear x); subst hq21; refine byA (hr22) fun a z => ?_; (try clear hr22))
    rw [List.cons_append]
    simp only [Lays]
    exact ⟨v, r ++ vs', by simp, a, Lays.append z y⟩
theorem Lays.one {d : D} {v : Value} (x : Lay B V h d v) : Lays B V h [d] [v] := by simp only [Lays]; exact ⟨v, [], rfl, x, rfl⟩
theorem Lays.drop : ∀ {l : List D} {vs : List Value} (n : Nat), Lays B V h l vs → Lays B V h (l.drop n) (vs.drop n)
  | [], vs, n, x => by simp only [Lays] at x; subst x; simp [Lays]
  | d :: l, vs, 0, x => x
  | d :: l, vs, n + 1, x => by simp only [Lays] at x; (refine byEEA (x) fun v r hq23 hr24 => ?_; (try clear x); subst hq23; refine byA (hr24) fun y z => ?_; (try clear hr24)); simpa using Lays.drop n z
theorem Lays.take : ∀ {l : List D} {vs : List Value} (n : Nat), Lays B V h l vs → Lays B V h (l.take n) (vs.take n)
  | [], vs, n, x => by simp only [Lays] at x; subst x; simp [Lays]
  | d :: l, vs, 0, x => by simp [Lays]
  | d :: l, vs, n + 1, x => by simp only [Lays] at x; (refine byEEA (x) fun v r hq25 hr26 => ?_; (try clear x); subst hq25; refine byA (hr26) fun y z => ?_; (try clear hr26)); simp only [List.take_succ_cons, Lays]; exact ⟨v, _, rfl, y, Lays.take n z⟩
theorem Lays.set : ∀ {l : List D} {vs : List Value} (n : Nat) {d : D} {v : Value}, Lays B V h l vs → Lay B V h d v → Lays B V h (l.set n d) (vs.set n v)
  | [], vs, n, _, _, x, _ => by simp only [Lays] at x; subst x; simp [Lays]
  | d :: l, vs, 0, d', v', x, y' => by simp only [Lays] at x; (refine byEEA (x) fun v r hq27 hr28 => ?_; (try clear x); subst hq27; refine byA (hr28) fun y z => ?_; (try clear hr28)); simp only [List.set_cons_zero, Lays]; exact ⟨v', _, rfl, y', z⟩
  | d :: l, vs, n + 1, d', v', x, y' => by simp only [Lays] at x; (refine byEEA (x) fun v r hq29 hr30 => ?_; (try clear x); subst hq29; refine byA (hr30) fun y z => ?_; (try clear hr30)); simp only [List.set_cons_succ, Lays]; exact ⟨v, _, rfl, y, Lays.set n z y'⟩
end
end Jv
namespace Jv
open PySem PySem.W PySem.Calls PyProof.Rows
noncomputable abbrev Kinds := Str → Option NameKind
structure EnvOk (K : Kinds) (env : Env) : Prop where
  fn : env.scope.kind = .function
  glob : env.globals = mainGlobals
  blt : env.builtins = builtinsNs
  kind : ∀ x, env.kindOf x = K x
noncomputable def LocAt (h : Heap) (L : Addr) (m : Str → Option Value) : Prop := h.Ns L m ∧ ∀ o, h.get? L = some o → ¬ IsPriv o
noncomputable def CellAt (h : Heap) (c : Addr) (v : Option Value) : Prop := ∃ o, h.get? c = some o ∧ o.cls = .type "cell" ∧ o.data = .cell v
theorem CellAt.is {h : Heap} {c : Addr} {v : Option Value} (x : CellAt h c v) : h.IsCell c v := let ⟨o, a, _, b⟩ := x; ⟨o, a, b⟩
noncomputable def Looks (h : Heap) (env : Env) (x : Str) (v : Value) : Prop :=
  (env.kindOf x = some .local ∧ ∃ m, LocAt h env.locals m ∧ m x = some v) ∨
  ((env.kindOf x = some .cell ∨ env.kindOf x = some .free) ∧ ∃ c, env.cells.lookup x = some c ∧ CellAt h c (some v))
theorem LocAt.keptQ {h h' : Heap} {L : Addr} {m : Str → Option Value} (x : LocAt h L m) (k : ∀ o, h.get? L = some o → KeptQ h' L o) : LocAt h' L m := by
  (refine byA (x) fun hp1 hc => ?_; (try clear x); obtain ⟨o, es, ep, ho, hd, hk, hf⟩ := hp1)
  rcases k o ho with k | ⟨c, sl, k⟩ | c
  · exact ⟨⟨o, es, ep, k, hd, hk, hf⟩, fun o' e => by rw [k] at e; cases e; exact hc o ho⟩
  · exact ⟨⟨_, es, ep, k, hd, hk, hf⟩, fun o' e => by rw [k] at e; cases e; exact hc o ho⟩
  · exact absurd c (hc o ho)
theorem CellAt.keptQ {h h' : Heap} {c : Addr} {v : Option Value} (x : CellAt h c v) (k : ∀ o, h.get? c = some o → KeptQ h' c o) : CellAt h' c v := by
  (refine byEAA (x) fun o ho hc hd => ?_; (try clear x))
  rcases k o ho with k | ⟨q, _⟩ | q
  · exact ⟨o, k, hc, hd⟩
  · rw [hc] at q; exact absurd q (by simp)
  · exact absurd hc q.2.2
theorem LocAt.kept {h h' : Heap} {L : Addr} {m : Str → Option Value} (x : LocAt h L m) (k : ∀ o, h.get? L = some o → Kept h' L o) : LocAt h' L m := x.keptQ fun o e => (k o e).q
theorem CellAt.kept {h h' : Heap} {c : Addr} {v : Option Value} (x : CellAt h c v) (k : ∀ o, h.get? c = some o → Kept h' c o) : CellAt h' c v := x.keptQ fun o e => (k o e).q
theorem Looks.kq {h h' : Heap} {env : Env} {x : Str} {v : Value} (l : Looks h env x v) (k : Kq h h') : Looks h' env x v := by
  rcases l with ⟨e, m, a, b⟩ | ⟨e, c, a, b⟩
  · exact .inl ⟨e, m, a.keptQ fun o e => k _ o e, b⟩
  · exact .inr ⟨e, c, a, b.keptQ fun o e => k _ o e⟩
theorem Looks.kp {h h' : Heap} {env : Env} {x : Str} {v : Value} (l : Looks h env x v) (k : Kp h h') : Looks h' env x v := l.kq k.q
theorem Looks.same {h : Heap} {env : Env} {x : Str} {v v' : Value} (l : Looks h env x v) (l' : Looks h env x v') : v = v' := by
  rcases l with ⟨e, m, a, b⟩ | ⟨e, c, a, b⟩ <;> rcases l' with ⟨e', m', a', b'⟩ | ⟨e', c', a', b'⟩
  · have := a.1.agree a'.1 x
    rw [b, b'] at this
    exact Option.some.inj this
  · rcases e' with e' | e' <;> (rw [e] at e'; cases e')
  · rcases e with e | e <;> (rw [e'] at e; cases e)
  · rw [a] at a'; cases a'
    (refine byEAA (b) fun o h1 _ h2 => ?_; (try clear b))
    (refine byEAA (b') fun o' h1' _ h2' => ?_; (try clear b'))
    rw [h1] at h1'; cases h1'
    rw [h2] at h2'; injection h2' with h2'; exact Option.some.inj h2'
inductive Slot where
  | sh (d : D)
  | own (a : Option Addr) (d : D)
noncomputable abbrev G := List (Str × Slot)
noncomputable def Holds (B : Base) (V : Addr → Prop) (h : Heap) : Slot → Value → Prop
  | .sh d, v => Lay B V h d v
  | .own a? d, v => ∃ a, v = .ref a ∧ (∀ a₀, a? = some a₀ → a = a₀) ∧ V a ∧ Content B V h d a
noncomputable def Slot.d : Slot → D
  | .sh d => d
  | .own _ d => d
structure EnvR (B : Base) (V : Addr → Prop) (h : Heap) (env : Env) (Γ : G) : Prop where
  domP : ∀ b, V b → ∃ o, h.get? b = some o ∧ ¬ IsPriv o
  vars : ∀ x sl, Γ.lookup x = some sl → ∃ v, Looks h env x v ∧ Holds B V h sl v
theorem EnvR.dom {B : Base} {V : Addr → Prop} {h : Heap} {env : Env} {Γ : G} (r : EnvR B V h env Γ) (b : Addr) (hb : V b) : ∃ o, h.get? b = some o := let ⟨o, e, _⟩ := r.domP b hb; ⟨o, e⟩
theorem Holds.kq {B : Base} {V : Addr → Prop} {h h' : Heap} {sl : Slot} {v : Value} (x : Holds B V h sl v) (k : Kq h h') : Holds B V h' sl v := by
  cases sl with
  | sh d => exact Lay.kq x k
  | own a? d => (refine byEAAA (x) fun a e f g c => ?_; (try clear x)); exact ⟨a, e, f, g, c.kq k⟩
theorem Holds.layB {B : Base} {V : Addr → Prop} {h : Heap} {sl : Slot} {v : Value} (x : Holds B V h sl v) : LayB B V h sl.d v := by
  cases sl with
  | sh d => exact .inl x
  | own a? d => (refine byEAAA (x) fun a e f g c => ?_; (try clear x)); exact .inr ⟨a, e, c⟩
theorem EnvR.kq {B : Base} {V : Addr → Prop} {h h' : Heap} {env : Env} {Γ : G} (r : EnvR B V h env Γ) (k : Kq h h') : EnvR B V h' env Γ :=
  ⟨fun b hb => let ⟨o, e, n⟩ := r.domP b hb; (k b o e).ex n, fun x sl e => let ⟨v, l, y⟩ := r.vars x sl e; ⟨v, l.kq k, y.kq k⟩⟩
theorem EnvR.kp {B : Base} {V : Addr → Prop} {h h' : Heap} {env : Env} {Γ : G} (r : EnvR B V h env Γ) (k : Kp h h') : EnvR B V h' env Γ := r.kq k.q
section
variable (B : Base) (k : Nat) (K : Kinds) (Γ : G) (e : Expr)
structure Ev (d : D) : Prop where
  run : ∀ (A : Around) (env : Env) (V : Addr → Prop) (s : Shared) (Q : Value → Shared → Prop) (E : Value → Shared → Prop),
  Room k A → EnvOk K env → Inv B A s → EnvR B V s.heap env Γ →
  (∀ v s', Inv B A s' → Kp s.heap s'.heap → Lay B V s'.heap d v → Q v s') → wpAny B.M A (eval e env) Q E s
structure EvB (d : D) : Prop where
  run : ∀ (A : Around) (env : Env) (V : Addr → Prop) (s : Shared) (Q : Value → Shared → Prop) (E : Value → Shared → Prop),
  Room k A → EnvOk K env → Inv B A s → EnvR B V s.heap env Γ →
  (∀ v s', Inv B A s' → Kp s.heap s'.heap → LayB B V s'.heap d v → Q v s') → wpAny B.M A (eval e env) Q E s
structure EvF (d : D) : Prop where
  run : ∀ (A : Around) (env : Env) (V : Addr → Prop) (s : Shared) (Q : Value → Shared → Prop) (E : Value → Shared → Prop),
  Room k A → EnvOk K env → Inv B A s → EnvR B V s.heap env Γ →
  (∀ a s', Inv B A s' → Kp s.heap s'.heap → s.heap.get? a = none → B.n₀ ≤ a → Content B (fun b => V b ∨ b = a) s'.heap d a → Q (.ref a) s') → wpAny B.M A (eval e env) Q E s
structure EvT (b : Bool) : Prop where
  run : ∀ (A : Around) (env : Env) (V : Addr → Prop) (s : Shared) (Q : Bool → Shared → Prop) (E : Value → Shared → Prop),
  Room k A → EnvOk K env → Inv B A s → EnvR B V s.heap env Γ →
  (∀ s', Inv B A s' → Kp s.heap s'.heap → Q b s') → wpAny B.M A (isTrue e env (eval e env)) Q E s
end
theorem Ev.b {B : Base} {k : Nat} {K : Kinds} {Γ : G} {e : Expr} {d : D} (x : Ev B k K Γ e d) : EvB B k K Γ e d :=
  .mk fun A env V s Q E r o i g h => x.run A env V s Q E r o i g fun v s' a b c => h v s' a b (.inl c)
theorem Content.shrink {B : Base} {V V' : Addr → Prop} {h : Heap} {d : D} {a : Addr} (x : Content B V' h d a) (hv : ∀ b, V b → V' b) : Content B V h d a :=
  x.mono (fun b o nb e _ => ⟨fun q => nb (hv b q), e⟩) fun o e _ => e
theorem EvF.ev {B : Base} {k : Nat} {K : Kinds} {Γ : G} {e : Expr} {d : D} (x : EvF B k K Γ e d) : Ev B k K Γ e d :=
  .mk fun A env V s Q E r o i g h => x.run A env V s Q E r o i g fun a s' i' kp new lo c => h _ s' i' kp
    ((c.shrink fun b q => .inl q).lay fun q => by refine byE (g.dom a q) fun o e => ?_; rw [new] at e; cases e)
structure Stm (B : Base) (V₀ W : Addr → Prop) (h : Heap) (env : Env) (Γ : G) : Prop where
  r : EnvR B (fun b => V₀ b ∨ W b) h env Γ
  hi : ∀ b, W b → B.n₀ ≤ b
  frame : env.frame = some env.locals
  loc : W env.locals ∧ ∃ o es ep, h.get? env.locals = some o ∧ o.cls = .type "frame" ∧ o.data = .dict es ep ∧ StrKeys es
  cells : ∀ x c, (x, c) ∈ env.cells → W c ∧ ∃ v, CellAt h c v
  apart : env.cells.Pairwise fun x y => x.2 ≠ y.2
  kinds : ∀ x, env.kindOf x = some .cell → ∃ c, env.cells.lookup x = some c
  own : ∀ x a? d v, Γ.lookup x = some (.own a? d) → Looks h env x v → ∃ a, v = .ref a ∧ W a ∧ (a? = none → ¬ V₀ a)
  apo : ∀ x y a?x dx a?y dy v, Γ.lookup x = some (.own a?x dx) → Γ.lookup y = some (.own a?y dy) → Looks h env x v → Looks h env y v → x = y
inductive Out where
  | next | brk | ret (d : D)
noncomputable def OutIs (B : Base) (V : Addr → Prop) (h : Heap) : Out → Flow → Prop
  | .next, f => f = .next
  | .brk, f => f = .brk
  | .ret d, f => ∃ v, f = .ret v ∧ Lay B V h d v
structure Ext (W : Addr → Prop) (h : Heap) (W' : Addr → Prop) (h' : Heap) : Prop where
  new : ∀ b, W' b → W b ∨ h.get? b = none
  kp : KpOff W h h'
theorem Ext.refl (W : Addr → Prop) (h : Heap) : Ext W h W h := ⟨fun _ q => .inl q, (Kp.refl h).off _⟩
theorem Ext.of_kp {W : Addr → Prop} {h h' : Heap} (k : Kp h h') : Ext W h W h' := ⟨fun _ q => .inl q, k.off _⟩
noncomputable def Dom (h h' : Heap) : Prop := ∀ b o, h.get? b = some o → ∃ o', h'.get? b = some o'
theorem Ext.trans {W₁ W₂ W₃ : Addr → Prop} {h₁ h₂ h₃ : Heap} (x : Ext W₁ h₁ W₂ h₂) (y : Ext W₂ h₂ W₃ h₃) (dm : Dom h₁ h₂) : Ext W₁ h₁ W₃ h₃ :=
  ⟨fun b q => (by
    rcases y.new b q with q | q
    · exact x.new b q
    · right
      cases e : h₁.get? b with
      | none => rfl
      | some o => refine byE (dm b o e) fun o' e' => ?_; rw [q] at e'; cases e'),
   x.kp.trans y.kp fun b o q e => (x.new b q).resolve_right fun z => by rw [e] at z; cases z⟩
section
variable (B : Base) (k : Nat) (K : Kinds) (Γ : G)
structure Ex (ss : List Stmt) (o : Out) (Γ' : G) : Prop where
  run : ∀ (A : Around) (env : Env) (V₀ W : Addr → Prop) (s : Shared) (Q : Flow → Shared → Prop) (E : Value → Shared → Prop),
  Room k A → EnvOk K env → Inv B A s → Stm B V₀ W s.heap env Γ →
  (∀ fl s' W', Inv B A s' → Dom s.heap s'.heap → Ext W s.heap W' s'.heap → Stm B V₀ W' s'.heap env Γ' → OutIs B (fun b => V₀ b ∨ W' b) s'.heap o fl → Q fl s') →
  wpAny B.M A (execs ss env) Q E s
structure Ex1 (st : Stmt) (o : Out) (Γ' : G) : Prop where
  run : ∀ (A : Around) (env : Env) (V₀ W : Addr → Prop) (s : Shared) (Q : Flow → Shared → Prop) (E : Value → Shared → Prop),
  Room k A → EnvOk K env → Inv B A s → Stm B V₀ W s.heap env Γ →
  (∀ fl s' W', Inv B A s' → Dom s.heap s'.heap → Ext W s.heap W' s'.heap → Stm B V₀ W' s'.heap env Γ' → OutIs B (fun b => V₀ b ∨ W' b) s'.heap o fl → Q fl s') →
  wpAny B.M A (exec st env) Q E s
structure EvM (e : Expr) (d : D) (Γ' : G) : Prop where
  run : ∀ (A : Around) (env : Env) (V₀ W : Addr → Prop) (s : Shared) (Q : Value → Shared → Prop) (E : Value → Shared → Prop),
  Room k A → EnvOk K env → Inv B A s → Stm B V₀ W s.heap env Γ →
  (∀ v s' W', Inv B A s' → Dom s.heap s'.heap → Ext W s.heap W' s'.heap → Stm B V₀ W' s'.heap env Γ' → Lay B (fun b => V₀ b ∨ W' b) s'.heap d v → Q v s') →
  wpAny B.M A (eval e env) Q E s
end
theorem Dom.refl (h : Heap) : Dom h h := fun _ o e => ⟨o, e⟩
theorem Dom.trans {h₁ h₂ h₃ : Heap} (x : Dom h₁ h₂) (y : Dom h₂ h₃) : Dom h₁ h₃ := fun b o e => let ⟨o', e'⟩ := x b o e; y b o' e'
theorem Kp.dom {h h' : Heap} (k : Kp h h') : Dom h h' := fun b o e => (k b o e).ex
theorem Ex.nil {B : Base} {k : Nat} {K : Kinds} {Γ : G} : Ex B k K Γ [] .next Γ := .mk fun A env V₀ W s Q E _ _ i st h =>
  wpAny_execs_nil (h .next s W i (.refl _) (.refl _ _) st rfl)
theorem Ex.cons {B : Base} {k : Nat} {K : Kinds} {Γ Γ₁ Γ₂ : G} {st : Stmt} {ss : List Stmt} {o : Out} (x : Ex1 B k K Γ st .next Γ₁) (y : Ex B k K Γ₁ ss o Γ₂) : Ex B k K Γ (st :: ss) o Γ₂ :=
  .mk fun A env V₀ W s Q E r eo i z h => wpAny_execs_cons (x.run A env V₀ W s _ E r eo i z fun fl s' W' i' dm ex z' ou => by
    obtain rfl : fl = .next := ou
    exact y.run A env V₀ W' s' Q E r eo i' z' fun fl s'' W'' i'' dm' ex' z'' ou' => h fl s'' W'' i'' (dm.trans dm') (ex.trans ex' dm) z'' ou')
theorem Ex.stop {B : Base} {k : Nat} {K : Kinds} {Γ Γ₁ : G} {st : Stmt} {ss : List Stmt} {o : Out} (x : Ex1 B k K Γ st o Γ₁) (ho : o ≠ .next) : Ex B k K Γ (st :: ss) o Γ₁ :=
  .mk fun A env V₀ W s Q E r eo i z h => wpAny_execs_cons (x.run A env V₀ W s _ E r eo i z fun fl s' W' i' dm ex z' ou => by
    have := h fl s' W' i' dm ex z' ou
    cases o with
    | next => exact absurd rfl ho
    | brk => obtain rfl : fl = .brk := ou; exact this
    | ret d => (refine byEA (ou) fun v hq2 _ => ?_; (try clear ou); subst hq2); exact this)
end Jv
namespace Jv
open PySem PySem.W PySem.Calls PyProof.Rows
section
variable {B : Base} {k : Nat} {K : Kinds} {Γ : G}
theorem loadName_looks {M : Model} {A : Around} {env : Env} {x : Str} {v : Value} {s : Shared} {Q : Value → Shared → Prop} {E : Value → Shared → Prop} (o : EnvOk K env) (l : Looks s.heap env x v)
    (hc : (x == ("__classdict__" : Str)) = false) (h : Q v s) : wpAny M A (loadName env x) Q E s := by
  rcases l with ⟨e, m, a, b⟩ | ⟨e, c, a, b⟩
  · exact wpAny_loadName_local o.fn e a.1 b h
  · rcases e with e | e
    · exact wpAny_loadName_cell o.fn e a b.is h
    · exact wpAny_loadName_free o.fn e a b.is h hc
theorem Ev.name {x : Str} {p : Pos} {d : D} (hx : Γ.lookup x = some (.sh d)) (h1 : (x == ("__debug__" : Str)) = false := by decide) (h2 : (x == ("__classdict__" : Str)) = false := by decide) : Ev B k K Γ (.Name x p) d :=
  .mk fun A env V s Q E r o i g h => by
    refine byEA (g.vars x _ hx) fun v l y => ?_
    exact wpAny_Name (loadName_looks o l h2 (h v s i (.refl _) y)) h1
theorem EvB.name {x : Str} {p : Pos} {sl : Slot} (hx : Γ.lookup x = some sl) (h1 : (x == ("__debug__" : Str)) = false := by decide) (h2 : (x == ("__classdict__" : Str)) = false := by decide) : EvB B k K Γ (.Name x p) sl.d :=
  .mk fun A env V s Q E r o i g h => by
    refine byEA (g.vars x _ hx) fun v l y => ?_
    exact wpAny_Name (loadName_looks o l h2 (h v s i (.refl _) y.layB)) h1
theorem Ev.cint {i : Int} {n : Nat} {p : Pos} : Ev B k K Γ (.Constant (.int i) n p) (.int i) := .mk fun A env V s Q E r o I g h =>
  wpAny_Constant_int (h _ _ (I.tok _) (.refl _) ⟨_, rfl⟩)
theorem Ev.cstr {x : Str} {n : Nat} {p : Pos} : Ev B k K Γ (.Constant (.str x) n p) (.str x) := .mk fun A env V s Q E r o I g h =>
  wpAny_Constant_str (h _ _ (I.tok _) (.refl _) ⟨_, rfl⟩)
theorem Ev.cbool {b : Bool} {n : Nat} {p : Pos} : Ev B k K Γ (.Constant (.bool b) n p) (.bool b) := .mk fun A env V s Q E r o I g h =>
  wpAny_Constant_bool (h _ _ I (.refl _) rfl)
noncomputable def BinR (B : Base) (k : Nat) (op : Operator) (d₁ d₂ d : D) : Prop := ∀ (A : Around) (V : Addr → Prop) (s : Shared) (v₁ v₂ : Value) (Q : Value → Shared → Prop) (E : Value → Shared → Prop),
  Room k A → Inv B A s → (∀ b, V b → ∃ o, s.heap.get? b = some o) → LayB B V s.heap d₁ v₁ → LayB B V s.heap d₂ v₂ → (∀ v s', Inv B A s' → Kp s.heap s'.heap → Lay B V s'.heap d v → Q v s') → wpAny B.M A (binaryOp op v₁ v₂) Q E s
noncomputable def CmpR (B : Base) (k : Nat) (op : CmpOp) (d₁ d₂ : D) (b : Bool) : Prop := ∀ (A : Around) (V : Addr → Prop) (s : Shared) (v₁ v₂ : Value) (Q : Value → Shared → Prop) (E : Value → Shared → Prop),
  Room k A → Inv B A s → (∀ b, V b → ∃ o, s.heap.get? b = some o) → LayB B V s.heap d₁ v₁ → LayB B V s.heap d₂ v₂ → (∀ s', Inv B A s' → Kp s.heap s'.heap → Q (.bool b) s') → wpAny B.M A (compareOp op v₁ v₂) Q E s
theorem Ev.bin {l r : Expr} {op : Operator} {p : Pos} {d₁ d₂ d : D} (x : EvB B k K Γ l d₁) (y : EvB B k K Γ r d₂) (z : BinR B k op d₁ d₂ d) : Ev B k K Γ (.BinOp l op r p) d :=
  .mk fun A env V s Q E rm o i g h => wpAny_BinOp (x.run A env V s _ E rm o i g fun v₁ s₁ i₁ k₁ l₁ => y.run A env V s₁ _ E rm o i₁ (g.kp k₁) fun v₂ s₂ i₂ k₂ l₂ =>
    z A V s₂ v₁ v₂ Q E rm i₂ ((g.kp k₁).kp k₂).dom (l₁.kp k₂) l₂ fun v s₃ i₃ k₃ l₃ => h v s₃ i₃ ((k₁.trans k₂).trans k₃) l₃)
theorem Ev.cmp {l r : Expr} {op : CmpOp} {p : Pos} {d₁ d₂ : D} {b : Bool} (x : EvB B k K Γ l d₁) (y : EvB B k K Γ r d₂) (z : CmpR B k op d₁ d₂ b) (hm : behindInMarks op r = false := by rfl) : Ev B k K Γ (.Compare l [op] [r] p) (.bool b) :=
  .mk fun A env V s Q E rm o i g h => wpAny_Compare1 (x.run A env V s _ E rm o i g fun v₁ s₁ i₁ k₁ l₁ => y.run A env V s₁ _ E rm o i₁ (g.kp k₁) fun v₂ s₂ i₂ k₂ l₂ =>
    z A V s₂ v₁ v₂ Q E rm i₂ ((g.kp k₁).kp k₂).dom (l₁.kp k₂) l₂ fun s₃ i₃ k₃ => h _ s₃ i₃ ((k₁.trans k₂).trans k₃) rfl) hm
theorem EvT.cmp {l r : Expr} {op : CmpOp} {p : Pos} {d₁ d₂ : D} {b : Bool} (x : EvB B k K Γ l d₁) (y : EvB B k K Γ r d₂) (z : CmpR B k op d₁ d₂ b) (hm : behindInMarks op r = false := by rfl) : EvT B k K Γ (.Compare l [op] [r] p) b :=
  .mk fun A env V s Q E rm o i g h => wpAny_isTrue_Compare1 (x.run A env V s _ E rm o i g fun v₁ s₁ i₁ k₁ l₁ => y.run A env V s₁ _ E rm o i₁ (g.kp k₁) fun v₂ s₂ i₂ k₂ l₂ =>
    z A V s₂ v₁ v₂ _ E rm i₂ ((g.kp k₁).kp k₂).dom (l₁.kp k₂) l₂ fun s₃ i₃ k₃ => wpAny_truthy_bool (h s₃ i₃ ((k₁.trans k₂).trans k₃))) hm
theorem BinR.add_int {a b : Int} : BinR B k .Add (.int a) (.int b) (.int (a + b)) := fun A V s v₁ v₂ Q E r i dm x y h => by
  (refine byE (x.asInt) fun t hq1 => ?_; subst hq1); (refine byE (y.asInt) fun u hq2 => ?_; subst hq2)
  exact PyProof.Rows.add_int (h _ _ (i.tok _) (.refl _) ⟨_, rfl⟩)
theorem BinR.sub_int {a b : Int} : BinR B k .Sub (.int a) (.int b) (.int (a - b)) := fun A V s v₁ v₂ Q E r i dm x y h => by
  (refine byE (x.asInt) fun t hq3 => ?_; subst hq3); (refine byE (y.asInt) fun u hq4 => ?_; subst hq4)
  exact PyProof.Rows.sub_int (h _ _ (i.tok _) (.refl _) ⟨_, rfl⟩)
theorem BinR.mul_int {a b : Int} (hm : IntMulOk a b) : BinR B k .Mult (.int a) (.int b) (.int (a * b)) := fun A V s v₁ v₂ Q E r i dm x y h => by
  (refine byE (x.asInt) fun t hq5 => ?_; subst hq5); (refine byE (y.asInt) fun u hq6 => ?_; subst hq6)
  exact PyProof.Rows.mul_int (h _ _ (i.tok _) (.refl _) ⟨_, rfl⟩) hm
theorem BinR.mod_int {a b : Int} (hb : b ≠ 0) : BinR B k .Mod (.int a) (.int b) (.int (a.fmod b)) := fun A V s v₁ v₂ Q E r i dm x y h => by
  (refine byE (x.asInt) fun t hq7 => ?_; subst hq7); (refine byE (y.asInt) fun u hq8 => ?_; subst hq8)
  exact PyProof.Rows.mod_int hb (h _ _ (i.tok _) (.refl _) ⟨_, rfl⟩)
theorem BinR.div_int {a b : Int} (hb : b ≠ 0) (hp : Builtin.divisionGoesByPylong a b = false) : BinR B k .FloorDiv (.int a) (.int b) (.int (a.fdiv b)) := fun A V s v₁ v₂ Q E r i dm x y h => by
  (refine byE (x.asInt) fun t hq9 => ?_; subst hq9); (refine byE (y.asInt) fun u hq10 => ?_; subst hq10)
  exact PyProof.Rows.floordiv_int hb (h _ _ (i.tok _) (.refl _) ⟨_, rfl⟩) (.inl hp)
theorem BinR.add_str {a b : Str} (hz : a.length + b.length ≤ sizeLine) : BinR B k .Add (.str a) (.str b) (.str (a ++ b)) := fun A V s v₁ v₂ Q E r i dm x y h => by
  (refine byE (x.asStr) fun t hq13 => ?_; subst hq13); (refine byE (y.asStr) fun u hq14 => ?_; subst hq14)
  exact PyProof.Rows.add_str (fun t' tk => h _ _ (i.tok _) (.refl _) ⟨_, rfl⟩) hz
theorem CmpR.eq_int {a b : Int} : CmpR B k .Eq (.int a) (.int b) (a == b) := fun A V s v₁ v₂ Q E r i dm x y h => by
  (refine byE (x.asInt) fun t hq15 => ?_; subst hq15); (refine byE (y.asInt) fun u hq16 => ?_; subst hq16)
  exact PyProof.Rows.eq_int (h _ i (.refl _))
theorem CmpR.ne_int {a b : Int} : CmpR B k .NotEq (.int a) (.int b) (a != b) := fun A V s v₁ v₂ Q E r i dm x y h => by
  (refine byE (x.asInt) fun t hq17 => ?_; subst hq17); (refine byE (y.asInt) fun u hq18 => ?_; subst hq18)
  exact PyProof.Rows.ne_int (h _ i (.refl _))
theorem CmpR.eq_str {a b : Str} : CmpR B k .Eq (.str a) (.str b) (a == b) := fun A V s v₁ v₂ Q E r i dm x y h => by
  (refine byE (x.asStr) fun t hq23 => ?_; subst hq23); (refine byE (y.asStr) fun u hq24 => ?_; subst hq24)
  exact PyProof.Rows.eq_str (h _ i (.refl _))
theorem CmpR.ne_str {a b : Str} : CmpR B k .NotEq (.str a) (.str b) (a != b) := fun A V s v₁ v₂ Q E r i dm x y h => by
  (refine byE (x.asStr) fun t hq25 => ?_; subst hq25); (refine byE (y.asStr) fun u hq26 => ?_; subst hq26)
  exact PyProof.Rows.ne_str (h _ i (.refl _))
theorem CmpR.lt_str {a b : Str} : CmpR B k .Lt (.str a) (.str b) (decide (a.cps.toList < b.cps.toList)) := fun A V s v₁ v₂ Q E r i dm x y h => by
  (refine byE (x.asStr) fun t hq27 => ?_; subst hq27); (refine byE (y.asStr) fun u hq28 => ?_; subst hq28)
  exact PyProof.Rows.lt_str (h _ i (.refl _))
theorem CmpR.gt_str {a b : Str} : CmpR B k .Gt (.str a) (.str b) (decide (b.cps.toList < a.cps.toList)) := fun A V s v₁ v₂ Q E r i dm x y h => by
  (refine byE (x.asStr) fun t hq29 => ?_; subst hq29); (refine byE (y.asStr) fun u hq30 => ?_; subst hq30)
  exact PySem.P.gt_str (h _ i (.refl _))
noncomputable def TruR (B : Base) (k : Nat) (d : D) (b : Bool) : Prop := ∀ (A : Around) (V : Addr → Prop) (s : Shared) (v : Value) (Q : Bool → Shared → Prop) (E : Value → Shared → Prop),
  Room k A → Inv B A s → LayB B V s.heap d v → (∀ s', Inv B A s' → Kp s.heap s'.heap → Q b s') → wpAny B.M A (truthy v) Q E s
theorem EvT.val {e : Expr} {d : D} {b : Bool} (x : EvB B k K Γ e d) (t : TruR B k d b)
    (hp : ∀ env whole, PySem.isTrue e env whole = (do let v ← whole; standAt e.pos; holding [v] (truthy v)) := by intro _ _; rfl) : EvT B k K Γ e b :=
  .mk fun A env V s Q E rm o i g h => wpAny_isTrue_value (x.run A env V s _ E rm o i g fun v s₁ i₁ k₁ l₁ => t A V s₁ v Q E rm i₁ l₁ fun s₂ i₂ k₂ => h s₂ i₂ (k₁.trans k₂)) (hp _ _)
theorem TruR.bool {b : Bool} : TruR B k (.bool b) b := fun A V s v Q E r i x h => by
  obtain rfl := x.asBool
  exact wpAny_truthy_bool (h s i (.refl _))
theorem EvT.not {e : Expr} {p : Pos} {b : Bool} (x : EvT B k K Γ e b) : EvT B k K Γ (.UnaryOp .Not e p) (!b) :=
  .mk fun A env V s Q E rm o i g h => wpAny_isTrue_Not (x.run A env V s _ E rm o i g fun s₁ i₁ k₁ => h s₁ i₁ k₁)
structure EvA (B : Base) (k : Nat) (K : Kinds) (Γ : G) (op : BoolOp) (es : List Expr) (b : Bool) : Prop where
  run : ∀ (A : Around) (env : Env) (V : Addr → Prop) (s : Shared) (Q : Bool → Shared → Prop) (E : Value → Shared → Prop),
  Room k A → EnvOk K env → Inv B A s → EnvR B V s.heap env Γ →
  (∀ s', Inv B A s' → Kp s.heap s'.heap → Q b s') → wpAny B.M A (allTrue op es env) Q E s
theorem EvT.bool {op : BoolOp} {es : List Expr} {p : Pos} {b : Bool} (x : EvA B k K Γ op es b) : EvT B k K Γ (.BoolOp op es p) b :=
  .mk fun A env V s Q E rm o i g h => wpAny_isTrue_BoolOp (x.run A env V s Q E rm o i g h)
theorem EvA.nil {op : BoolOp} : EvA B k K Γ op [] (op == .And) := .mk fun A env V s Q E rm o i g h => by
  rw [allTrue]; exact wpAny_pure (h s i (.refl _))
theorem EvA.and {e : Expr} {es : List Expr} {a b : Bool} (x : EvT B k K Γ e a) (y : a = true → EvA B k K Γ .And es b) : EvA B k K Γ .And (e :: es) (a && b) := .mk fun A env V s Q E rm o i g h => by
  rw [allTrue]
  refine wpAny_bind (x.run A env V s _ E rm o i g fun s₁ i₁ k₁ => ?_)
  cases a with
  | false => exact wpAny_pure (h s₁ i₁ k₁)
  | true => exact (y rfl).run A env V s₁ Q E rm o i₁ (g.kp k₁) fun s₂ i₂ k₂ => h s₂ i₂ (k₁.trans k₂)
theorem EvA.or {e : Expr} {es : List Expr} {a b : Bool} (x : EvT B k K Γ e a) (y : a = false → EvA B k K Γ .Or es b) : EvA B k K Γ .Or (e :: es) (a || b) := .mk fun A env V s Q E rm o i g h => by
  rw [allTrue]
  refine wpAny_bind (x.run A env V s _ E rm o i g fun s₁ i₁ k₁ => ?_)
  cases a with
  | true => exact wpAny_pure (h s₁ i₁ k₁)
  | false => exact (y rfl).run A env V s₁ Q E rm o i₁ (g.kp k₁) fun s₂ i₂ k₂ => h s₂ i₂ (k₁.trans k₂)
theorem Ev.ite {t a b : Expr} {p : Pos} {c : Bool} {d : D} (x : EvT B k K Γ t c) (y : c = true → Ev B k K Γ a d) (z : c = false → Ev B k K Γ b d) : Ev B k K Γ (.IfExp t a b p) d := .mk fun A env V s Q E rm o i g h => by
  refine wpAny_IfExp (x.run A env V s _ E rm o i g fun s₁ i₁ k₁ => ?_)
  cases c with
  | true => exact (y rfl).run A env V s₁ Q E rm o i₁ (g.kp k₁) fun v s₂ i₂ k₂ l => h v s₂ i₂ (k₁.trans k₂) l
  | false => exact (z rfl).run A env V s₁ Q E rm o i₁ (g.kp k₁) fun v s₂ i₂ k₂ l => h v s₂ i₂ (k₁.trans k₂) l
structure EvL (B : Base) (k : Nat) (K : Kinds) (Γ : G) (es : List Expr) (ds : List D) : Prop where
  run : ∀ (p : Pos) (A : Around) (env : Env) (V : Addr → Prop) (s : Shared) (Q : List Value → Shared → Prop) (E : Value → Shared → Prop),
  Room k A → EnvOk K env → Inv B A s → EnvR B V s.heap env Γ →
  (∀ vs s', Inv B A s' → Kp s.heap s'.heap → Lays B V s'.heap ds vs → Q vs s') → wpAny B.M A (spliced (backTo p (starEach es env))) Q E s
noncomputable def notStar : Expr → Bool
  | .Starred .. => false
  | _ => true
theorem starEach_cons {e : Expr} {es : List Expr} {env : Env} (h : notStar e = true) : starEach (e :: es) env = (false, eval e env) :: starEach es env := by
  cases e <;> first | rfl | exact nomatch (show false = true from h)
theorem starEach_nil (env : Env) : starEach [] env = [] := rfl
theorem EvL.nil : EvL B k K Γ [] [] := .mk fun p A env V s Q E rm o i g h => by
  rw [starEach_nil]; exact Calls.spliced_nil (h [] s i (.refl _) rfl)
theorem EvL.cons {e : Expr} {es : List Expr} {d : D} {ds : List D} (x : Ev B k K Γ e d) (y : EvL B k K Γ es ds) (hn : notStar e = true := by rfl) : EvL B k K Γ (e :: es) (d :: ds) := .mk fun p A env V s Q E rm o i g h => by
  rw [starEach_cons hn]
  show wpAny _ _ (spliced ((false, eval e env) :: backTo p (starEach es env))) Q E s
  exact Calls.spliced_cons (x.run A env V s _ E rm o i g fun v s₁ i₁ k₁ l₁ => y.run p A env V s₁ _ E rm o i₁ (g.kp k₁) fun vs s₂ i₂ k₂ l₂ => h (v :: vs) s₂ i₂ (k₁.trans k₂) ⟨v, vs, rfl, l₁.kp k₂, l₂⟩)
end
end Jv
namespace Jv
open PySem PySem.W PySem.Calls PyProof.Rows
theorem putName_cls (name : Str) (hh : Int) (key v : Value) (o : Obj) : (Obj.putName name hh key v o).cls = o.cls := by
  rw [Obj.putName_eq]
  obtain ⟨c, d, dt, sl⟩ := o
  cases dt <;> try rfl
  simp only [Obj.putNameByArray]
  split <;> rfl
theorem nsSet_frame {M : Model} {A : Around} {a : Addr} {name : Str} {v : Value} {s : Shared} {o : Obj} {es : Array DictEntry} {ep : Nat} {m : Str → Option Value} {Q : Unit → Shared → Prop} {E : Value → Shared → Prop}
    (ho : s.heap.get? a = some o) (hd : o.data = .dict es ep) (hk : StrKeys es) (hn : s.heap.Ns a m)
    (hQ : ∀ h', h'.Ns a (fun x => if x = name then some v else m x) → Heap.SameBut a s.heap h' → (∃ o' es' ep', h'.get? a = some o' ∧ o'.cls = o.cls ∧ o'.data = .dict es' ep' ∧ StrKeys es') → Q () { s with heap := h', toks := s.toks + 1 }) :
    wpAny M A (nsSet a name v) Q E s := fun Γ p hΓ => by
  have e : ∀ (R : Unit → Pos → Shared → Prop) (E' : Value → Pos → Shared → Prop), Sem.wp M Γ (nsSet a name v) R E' p s ↔
      R () p { s with heap := s.heap.update a (Obj.putName name (hashStr M.w name) (.str name s.toks) v), toks := s.toks + 1 } := fun R E' => by
    simp only [nsSet, strHash, Sem.wp_bind', Sem.wp_cmd_ask, Sem.wp_pure', Sem.wp_cmd_mkText]
    rw [Sem.wp_loadPart_of M Γ E' p { s with toks := s.toks + 1 } (o := o) _ ho]
    have hany : es.any (·.refKey) = false := by
      rw [Array.any_eq_false']; intro e he; refine byEE (hk e he) fun n t h => ?_; simp [DictEntry.refKey, h]
    simp only [hd, aRefKeyMayBeTheName_eq, aRefKeyMayBeTheNameByArray, hany, Bool.and_false, Bool.false_eq_true, if_false, Sem.wp_cmd_updatePart]
    constructor
    · exact fun x => x.2
    · exact fun x => ⟨by show (s.heap.get? a).isSome = true; rw [ho]; rfl, x⟩
  rw [e]
  have n := (e (fun _ _ s' => s'.heap.Ns a (fun x => if x = name then some v else m x)) (fun _ _ _ => False)).mp (Sem.wp_nsSet M Γ _ p s hn name v _ fun h' x _ => x)
  refine hQ _ n (Heap.SameBut.update ..) ?_
  (refine byEE (n) fun o' es' hr1 => ?_; (try clear n); refine byEAAA (hr1) fun ep' ho' hd' hk' _ => ?_; (try clear hr1))
  refine ⟨o', es', ep', ho', ?_, hd', hk'⟩
  have := Heap.get?_update_self (Obj.putName name (hashStr M.w name) (.str name s.toks) v) ho (by
    have h2 := Heap.get?_some_iff.mp ho'
    have h3 : (s.heap.update a (Obj.putName name (hashStr M.w name) (.str name s.toks) v)).objs[a]? = some o' := h2.1
    have h4 : (s.heap.update a (Obj.putName name (hashStr M.w name) (.str name s.toks) v)).objs[a]? = some (Obj.putName name (hashStr M.w name) (.str name s.toks) v o) := by
      have h5 := (Heap.get?_some_iff.mp ho).1
      rw [Heap.objs_update_self, h5]; rfl
    rw [h4] at h3; cases h3; exact h2.2)
  have ho'' : (s.heap.update a (Obj.putName name (hashStr M.w name) (.str name s.toks) v)).get? a = some o' := ho'
  rw [this] at ho''
  cases ho''
  exact putName_cls ..
noncomputable def put : G → Str → Slot → G
  | [], x, t => [(x, t)]
  | (y, u) :: r, x, t => if y == x then (x, t) :: r else (y, u) :: put r x t
theorem put_look : ∀ (Γ : G) (x : Str) (t : Slot) (y : Str), (put Γ x t).lookup y = if y == x then some t else Γ.lookup y
  | [], x, t, y => by
    simp only [put, List.lookup_cons, List.lookup_nil]
    cases y == x <;> rfl
  | (z, u) :: r, x, t, y => by
    unfold put
    by_cases hz : (z == x) = true
    · rw [if_pos hz]
      obtain rfl := beq_iff_eq.mp hz
      rw [List.lookup_cons, List.lookup_cons]
      cases y == z <;> rfl
    · rw [if_neg hz, List.lookup_cons, List.lookup_cons, put_look r x t y]
      cases hy : y == z with
      | false => rfl
      | true =>
        obtain rfl := beq_iff_eq.mp hy
        simp only [hz, Bool.false_eq_true, if_false]
structure Upd1 (h h' : Heap) (a : Addr) : Prop where
  same : Heap.SameBut a h h'
  old : ∃ o o', h.get? a = some o ∧ h'.get? a = some o' ∧ ((o.cls = .type "frame" ∧ o'.cls = .type "frame" ∧ ∃ es ep, o'.data = .dict es ep) ∨ (o.cls = .type "cell" ∧ o'.cls = .type "cell"))
section
variable {B : Base} {k : Nat} {K : Kinds} {Γ : G} {V₀ W : Addr → Prop} {h h' : Heap} {env : Env} {a : Addr}
theorem Upd1.ne (u : Upd1 h h' a) {b : Addr} {o : Obj} (e : h.get? b = some o) (hc : o.cls ≠ .type "frame") (hc' : o.cls ≠ .type "cell") : b ≠ a := by
  rintro rfl
  refine byEEAA (u.old) fun o1 o' h1 h2 c => ?_
  rw [e] at h1; cases h1
  rcases c with c | c
  · exact hc c.1
  · exact hc' c.1
theorem Upd1.dom (u : Upd1 h h' a) : Dom h h' := fun b o e => by
  by_cases hb : b = a
  · subst hb; refine byEEAA (u.old) fun _ o' _ h2 _ => ?_; exact ⟨o', h2⟩
  · exact ⟨o, (u.same.2 b hb).trans e⟩
theorem Upd1.off (u : Upd1 h h' a) (hW : W a) : KpOff W h h' := fun b o nb e => .inl ((u.same.2 b fun q => nb (q ▸ hW)).trans e)
theorem Upd1.inv (u : Upd1 h h' a) (O : B.Ok) {A : Around} {s : Shared} {tk : Nat} (I : Inv B A s) (hs : s.heap = h) (hn : B.n₀ ≤ a) : Inv B A { s with heap := h', toks := tk } := by
  subst hs
  refine ⟨O.step _ _ I.good fun b o hb e => (u.same.2 b (by rintro rfl; omega)).trans e, I.gens, I.os, ?_⟩
  refine byEA (I.fr) fun l e hl => ?_
  refine ⟨l, e, fun env he => ?_⟩
  (refine byA (hl env he) fun hk hr2 => ?_; refine byEE (hr2) fun L o hr3 => ?_; (try clear hr2); refine byEEAAA (hr3) fun es ep h1 h2 h3 hr4 => ?_; (try clear hr3); refine byA (hr4) fun h4 h5 => ?_; (try clear hr4))
  by_cases hL : L = a
  · subst hL
    refine byEEAA (u.old) fun o1 o' h6 h7 c => ?_
    rw [h3] at h6; cases h6
    rcases c with ⟨_, c, es', ep', d⟩ | ⟨c, _⟩
    · exact ⟨hk, L, o', es', ep', h1, h2, h7, c, d⟩
    · rw [h4] at c; exact absurd c (by simp)
  · exact ⟨hk, L, o, es, ep, h1, h2, (u.same.2 L hL).trans h3, h4, h5⟩
theorem Stm.upd (st : Stm B V₀ W h env Γ) (u : Upd1 h h' a) (hW : W a) {x : Str} {v : Value} {sl : Slot}
    (hl : Looks h' env x v) (ho : ∀ y w, y ≠ x → Looks h env y w → Looks h' env y w)
    (hloc : ∃ o es ep, h'.get? env.locals = some o ∧ o.cls = .type "frame" ∧ o.data = .dict es ep ∧ StrKeys es)
    (hcell : ∀ y c, (y, c) ∈ env.cells → ∃ v, CellAt h' c v)
    (hv : Holds B (fun b => V₀ b ∨ W b) h sl v) (hown : ∀ a? d, sl = .own a? d → (∃ a, v = .ref a ∧ W a ∧ (a? = none → ¬ V₀ a)) ∧ ∀ y a?' d' w, y ≠ x → Γ.lookup y = some (.own a?' d') → Looks h env y w → w ≠ v) :
    Stm B V₀ W h' env (put Γ x sl) := by
  have keepK : ∀ b o, ¬ (V₀ b ∨ W b) → h.get? b = some o → IsData o → ¬ (V₀ b ∨ W b) ∧ h'.get? b = some o := fun b o nb e _ =>
    ⟨nb, (u.same.2 b fun q => nb (.inr (q ▸ hW))).trans e⟩
  have holds : ∀ sl v, Holds B (fun b => V₀ b ∨ W b) h sl v → Holds B (fun b => V₀ b ∨ W b) h' sl v := fun sl v hh => by
    cases sl with
    | sh d => exact Lay.mono keepK hh
    | own a? d =>
      (refine byEAAA (hh) fun r e f g c => ?_; (try clear hh))
      exact ⟨r, e, f, g, c.mono keepK fun o eo i => (u.same.2 r (u.ne eo i.nf.1 i.nf.2)).trans eo⟩
  have back : ∀ y w, y ≠ x → (∃ sl', Γ.lookup y = some sl') → Looks h' env y w → Looks h env y w := fun y w hy hx l => by
    (refine byE (hx) fun sl' e => ?_; (try clear hx))
    refine byEA (st.r.vars y sl' e) fun w' l' _ => ?_
    have := (ho y w' hy l').same l
    exact this ▸ l'
  refine ⟨⟨fun b hb => ?_, fun y sl' e => ?_⟩, st.hi, st.frame, ⟨st.loc.1, hloc⟩, fun y c m => ⟨(st.cells y c m).1, hcell y c m⟩, st.apart, st.kinds, fun y a? d w e l => ?_, fun y z ay dy az dz w ey ez ly lz => ?_⟩
  · refine byEA (st.r.domP b hb) fun o e n => ?_
    by_cases q : b = a
    · subst q
      refine byEEAA (u.old) fun o1 o' h1 h2 c => ?_
      refine ⟨o', h2, ?_⟩
      rcases c with ⟨_, c, _⟩ | ⟨_, c⟩
      · exact fun q => q.2.1 c
      · exact fun q => q.2.2 c
    · exact ⟨o, (u.same.2 b q).trans e, n⟩
  · rw [put_look] at e
    by_cases hy : (y == x) = true
    · rw [if_pos hy] at e
      cases e
      rw [beq_iff_eq.mp hy]
      exact ⟨v, hl, holds _ _ hv⟩
    · rw [if_neg hy] at e
      refine byEA (st.r.vars y sl' e) fun w l hh => ?_
      exact ⟨w, ho y w (fun q => hy (beq_iff_eq.mpr q)) l, holds _ _ hh⟩
  · rw [put_look] at e
    by_cases hy : (y == x) = true
    · rw [if_pos hy] at e
      obtain rfl := beq_iff_eq.mp hy
      rw [← hl.same l]
      exact (hown a? d (Option.some.inj e)).1
    · rw [if_neg hy] at e
      exact st.own y a? d w e (back y w (fun q => hy (beq_iff_eq.mpr q)) ⟨_, e⟩ l)
  · rw [put_look] at ey ez
    by_cases hy : (y == x) = true
    · by_cases hz : (z == x) = true
      · exact (beq_iff_eq.mp hy).trans (beq_iff_eq.mp hz).symm
      · rw [if_pos hy] at ey; rw [if_neg hz] at ez
        obtain rfl := beq_iff_eq.mp hy
        have hz' : z ≠ y := fun q => hz (beq_iff_eq.mpr q)
        exact absurd (hl.same ly).symm ((hown _ _ (Option.some.inj ey)).2 z az dz w hz' ez (back z w hz' ⟨_, ez⟩ lz))
    · by_cases hz : (z == x) = true
      · rw [if_neg hy] at ey; rw [if_pos hz] at ez
        obtain rfl := beq_iff_eq.mp hz
        have hy' : y ≠ z := fun q => hy (beq_iff_eq.mpr q)
        exact absurd (hl.same lz).symm ((hown _ _ (Option.some.inj ez)).2 y ay dy w hy' ey (back y w hy' ⟨_, ey⟩ ly))
      · rw [if_neg hy] at ey; rw [if_neg hz] at ez
        exact st.apo y z ay dy az dz w ey ez (back y w (fun q => hy (beq_iff_eq.mpr q)) ⟨_, ey⟩ ly) (back z w (fun q => hz (beq_iff_eq.mpr q)) ⟨_, ez⟩ lz)
theorem store_stm' (O : B.Ok) {A : Around} {s : Shared} {x : Str} {v : Value} {sl : Slot} {Q : Unit → Shared → Prop} {E : Value → Shared → Prop} (eo : EnvOk K env) (hx : K x = some .local ∨ K x = some .cell)
    (i : Inv B A s) (st : Stm B V₀ W s.heap env Γ)
    (hv : Holds B (fun b => V₀ b ∨ W b) s.heap sl v) (hown : ∀ a? d, sl = .own a? d → (∃ a, v = .ref a ∧ W a ∧ (a? = none → ¬ V₀ a)) ∧ ∀ y a?' d' w, y ≠ x → Γ.lookup y = some (.own a?' d') → Looks s.heap env y w → w ≠ v)
    (hQ : ∀ s' a, Inv B A s' → Upd1 s.heap s'.heap a → W a → Stm B V₀ W s'.heap env (put Γ x sl) → Looks s'.heap env x v → (∀ y w, y ≠ x → Looks s.heap env y w → Looks s'.heap env y w) → Q () s') : wpAny B.M A (storeName env x v) Q E s := by
  refine byAEEEAAA (st.loc) fun wl ol es ep hol hcl hdl hkl => ?_
  have nsl : s.heap.Ns env.locals (nsFind es) := ⟨ol, es, ep, hol, hdl, hkl, fun _ => rfl⟩
  rcases hx with hx | hx
  · have hk : env.kindOf x = some .local := (eo.kind x).trans hx
    rw [storeName_local hk (by rw [eo.fn]; rfl)]
    refine nsSet_frame hol hdl hkl nsl fun h' hn hs hx => ?_
    (refine byEE (hx) fun o' es' hr5 => ?_; (try clear hx); refine byEAAA (hr5) fun ep' ho' hc' hd' hk' => ?_; (try clear hr5))
    have u : Upd1 s.heap h' env.locals := ⟨hs, ol, o', hol, ho', .inl ⟨hcl, hc'.trans hcl, es', ep', hd'⟩⟩
    have hne : ∀ y c v, (y, c) ∈ env.cells → CellAt s.heap c v → c ≠ env.locals := fun y c v m hx => by
      (refine byEAA (hx) fun oc h1 h2 _ => ?_; (try clear hx))
      rintro rfl
      rw [hol] at h1; cases h1
      rw [hcl] at h2; exact absurd h2 (by simp)
    refine (fun (l1 : Looks h' env x v) (l2 : ∀ y w, y ≠ x → Looks s.heap env y w → Looks h' env y w) => hQ _ _ (u.inv O i rfl (st.hi _ wl)) u wl (st.upd u wl (v := v) l1 l2 ?_ ?_ hv hown) l1 l2) ?_ ?_
    rotate_left 2
    · exact .inl ⟨hk, _, ⟨hn, fun o e => by rw [ho'] at e; cases e; exact fun q => q.2.1 (hc'.trans hcl)⟩, by simp⟩
    · intro y w hy l
      rcases l with ⟨e, m, am, bm⟩ | ⟨e, c, am, bm⟩
      · refine .inl ⟨e, _, ⟨hn, fun o e => by rw [ho'] at e; cases e; exact fun q => q.2.1 (hc'.trans hcl)⟩, ?_⟩
        show (if y = x then _ else _) = _
        rw [if_neg hy, ← bm]
        exact nsl.agree am.1 y
      · (refine byEAA (bm) fun oc h1 h2 h3 => ?_; (try clear bm))
        exact .inr ⟨e, c, am, oc, (hs.2 c (hne y c _ (mem_of_lookup am) ⟨oc, h1, h2, h3⟩)).trans h1, h2, h3⟩
    · exact ⟨o', es', ep', ho', hc'.trans hcl, hd', hk'⟩
    · intro y c m
      refine byAEEAA (st.cells y c m) fun _ vc oc h1 h2 h3 => ?_
      exact ⟨vc, oc, (hs.2 c (hne y c _ m ⟨oc, h1, h2, h3⟩)).trans h1, h2, h3⟩
  · have hk : env.kindOf x = some .cell := (eo.kind x).trans hx
    refine byE (st.kinds x hk) fun c hc => ?_
    refine byAEEAA (st.cells x c (mem_of_lookup hc)) fun wc vc oc h1 h2 h3 => ?_
    unfold storeName
    simp only [hk, eo.fn]
    refine wpAny_bind (wpAny_cellOf hc ?_)
    unfold cellSet
    refine wpAny_bind (wpAny_load h1 ?_)
    rw [h3]
    refine wpAny_update h1 ?_
    have g' : (s.heap.update c fun o => { o with data := .cell (some v) }).get? c = some { oc with data := .cell (some v) } := Heap.get?_update_self _ h1 rfl
    have hs : Heap.SameBut c s.heap (s.heap.update c fun o => { o with data := .cell (some v) }) := Heap.SameBut.update ..
    have u : Upd1 s.heap (s.heap.update c fun o => { o with data := .cell (some v) }) c := ⟨hs, oc, _, h1, g', .inr ⟨h2, h2⟩⟩
    have hnl : env.locals ≠ c := by
      intro q
      rw [q, h1] at hol; cases hol
      rw [h2] at hcl; exact absurd hcl (by simp)
    refine (fun (l1 : Looks _ env x v) (l2 : ∀ y w, y ≠ x → Looks s.heap env y w → Looks _ env y w) => hQ _ _ (u.inv O i rfl (st.hi _ wc)) u wc (st.upd u wc (v := v) l1 l2 ?_ ?_ hv hown) l1 l2) ?_ ?_
    rotate_left 2
    · exact .inr ⟨.inl hk, c, hc, _, g', h2, rfl⟩
    · intro y w hy l
      rcases l with ⟨e, m, am, bm⟩ | ⟨e, c', am, bm⟩
      · exact .inl ⟨e, m, am.kept fun o eo => .inl ((hs.2 _ hnl).trans eo), bm⟩
      · have hcc : c' ≠ c := fun q => hy (name_of_addr st.apart (mem_of_lookup am) (q ▸ mem_of_lookup hc))
        exact .inr ⟨e, c', am, bm.kept fun o eo => .inl ((hs.2 _ hcc).trans eo)⟩
    · exact ⟨ol, es, ep, (hs.2 _ hnl).trans hol, hcl, hdl, hkl⟩
    · intro y c' m
      by_cases hcc : c' = c
      · subst hcc; exact ⟨_, _, g', h2, rfl⟩
      · (refine byA (st.cells y c' m) fun _ hr6 => ?_; refine byE (hr6) fun vc' x' => ?_; (try clear hr6))
        exact ⟨vc', x'.kept fun o eo => .inl ((hs.2 _ hcc).trans eo)⟩
theorem store_stm (O : B.Ok) {A : Around} {s : Shared} {x : Str} {v : Value} {sl : Slot} {Q : Unit → Shared → Prop} {E : Value → Shared → Prop} (eo : EnvOk K env) (hx : K x = some .local ∨ K x = some .cell)
    (i : Inv B A s) (st : Stm B V₀ W s.heap env Γ)
    (hv : Holds B (fun b => V₀ b ∨ W b) s.heap sl v) (hown : ∀ a? d, sl = .own a? d → (∃ a, v = .ref a ∧ W a ∧ (a? = none → ¬ V₀ a)) ∧ ∀ y a?' d' w, y ≠ x → Γ.lookup y = some (.own a?' d') → Looks s.heap env y w → w ≠ v)
    (hQ : ∀ s', Inv B A s' → Dom s.heap s'.heap → Ext W s.heap W s'.heap → Stm B V₀ W s'.heap env (put Γ x sl) → Q () s') : wpAny B.M A (storeName env x v) Q E s :=
  store_stm' O eo hx i st hv hown fun s' a i' u wa st' _ _ => hQ s' i' u.dom ⟨fun _ q => .inl q, u.off wa⟩ st'
end
end Jv
namespace Jv
open PySem PySem.W PySem.Calls PyProof.Rows
theorem keep_ext {h h' : Heap} {a : Addr} (x : Heap.ExtBut a h h') (ha : h.objs.size ≤ a) : ∀ b o, h.get? b = some o → h'.get? b = some o :=
  fun b o e => x b o (Nat.ne_of_lt (Nat.lt_of_lt_of_le (Heap.lt_size e) ha)) e
theorem none_size {h : Heap} {a : Addr} (ha : h.objs.size ≤ a) : h.get? a = none := by
  cases e : h.get? a with
  | none => rfl
  | some o => exact absurd (Heap.lt_size e) (Nat.not_lt.mpr ha)
section
variable {B : Base} {k : Nat} {K : Kinds} {Γ : G} {V₀ W : Addr → Prop} {h h' : Heap} {env : Env} {a : Addr}
theorem Stm.grow (st : Stm B V₀ W h env Γ) (k : Kp h h') (new : h.get? a = none) (lo : B.n₀ ≤ a) (there : ∃ o, h'.get? a = some o ∧ ¬ IsPriv o) : Stm B V₀ (fun b => W b ∨ b = a) h' env Γ := by
  have K : ∀ b o, ¬ (V₀ b ∨ W b) → h.get? b = some o → IsData o → ¬ (V₀ b ∨ W b ∨ b = a) ∧ h'.get? b = some o := fun b o nb e i =>
    ⟨fun q => (by
      rcases q with q | q | q
      · exact nb (.inl q)
      · exact nb (.inr q)
      · subst q; rw [new] at e; cases e), IsData.kept i (k b o e)⟩
  have back : ∀ y w, (∃ sl', Γ.lookup y = some sl') → Looks h' env y w → Looks h env y w := fun y w hx l => by
    (refine byE (hx) fun sl' e => ?_; (try clear hx))
    refine byEA (st.r.vars y sl' e) fun w' l' _ => ?_
    exact (l'.kp k).same l ▸ l'
  refine ⟨⟨fun b hb => ?_, fun y sl e => ?_⟩, fun b hb => hb.elim (st.hi b) fun q => q ▸ lo, st.frame, ⟨.inl st.loc.1, ?_⟩, fun y c m => ⟨.inl (st.cells y c m).1, ?_⟩, st.apart, st.kinds, fun y a? d w e l => ?_, fun y z ay dy az dz w ey ez ly lz => ?_⟩
  · rcases hb with hb | hb | hb
    · refine byEA (st.r.domP b (.inl hb)) fun o e n => ?_; exact (k b o e).q.ex n
    · refine byEA (st.r.domP b (.inr hb)) fun o e n => ?_; exact (k b o e).q.ex n
    · exact hb ▸ there
  · refine byEA (st.r.vars y sl e) fun v l hh => ?_
    refine ⟨v, l.kp k, ?_⟩
    cases sl with
    | sh d => exact Lay.mono K hh
    | own a? d =>
      (refine byEAAA (hh) fun r e f g c => ?_; (try clear hh))
      exact ⟨r, e, f, g.imp id .inl, c.mono K fun o e i => IsData.kept i (k r o e)⟩
  · refine byAEEEAAA (st.loc) fun _ o es ep h1 h2 h3 h4 => ?_
    rcases k _ _ h1 with q | ⟨_, sl, q⟩ | ⟨q, _⟩
    · exact ⟨o, es, ep, q, h2, h3, h4⟩
    · exact ⟨_, es, ep, q, h2, h3, h4⟩
    · rw [h2] at q; cases q
  · (refine byA (st.cells y c m) fun _ hr1 => ?_; refine byE (hr1) fun v c' => ?_; (try clear hr1))
    exact ⟨v, c'.kept fun o e => k _ o e⟩
  · refine byEAA (st.own y a? d w e (back y w ⟨_, e⟩ l)) fun r e' w' nv => ?_
    exact ⟨r, e', .inl w', nv⟩
  · exact st.apo y z ay dy az dz w ey ez (back y w ⟨_, ey⟩ ly) (back z w ⟨_, ez⟩ lz)
theorem Stm.kq (st : Stm B V₀ W h env Γ) (k : Kq h h') : Stm B V₀ W h' env Γ := by
  have back : ∀ y w, (∃ sl', Γ.lookup y = some sl') → Looks h' env y w → Looks h env y w := fun y w hx l => by
    (refine byE (hx) fun sl' e => ?_; (try clear hx))
    refine byEA (st.r.vars y sl' e) fun w' l' _ => ?_
    exact (l'.kq k).same l ▸ l'
  refine ⟨st.r.kq k, st.hi, st.frame, ⟨st.loc.1, ?_⟩, fun y c m => ⟨(st.cells y c m).1, ?_⟩, st.apart, st.kinds, fun y a? d w e l => st.own y a? d w e (back y w ⟨_, e⟩ l), fun y z ay dy az dz w ey ez ly lz => st.apo y z ay dy az dz w ey ez (back y w ⟨_, ey⟩ ly) (back z w ⟨_, ez⟩ lz)⟩
  · refine byAEEEAAA (st.loc) fun _ o es ep h1 h2 h3 h4 => ?_
    rcases k _ _ h1 with q | ⟨_, sl, q⟩ | q
    · exact ⟨o, es, ep, q, h2, h3, h4⟩
    · exact ⟨_, es, ep, q, h2, h3, h4⟩
    · exact absurd h2 q.2.1
  · (refine byA (st.cells y c m) fun _ hr2 => ?_; refine byE (hr2) fun v c' => ?_; (try clear hr2))
    exact ⟨v, c'.keptQ fun o e => k _ o e⟩
theorem Stm.kp (st : Stm B V₀ W h env Γ) (k : Kp h h') : Stm B V₀ W h' env Γ := st.kq k.q
theorem Slot.there (st : EnvR B V₀ h env Γ) {y : Str} {sl : Slot} {a : Addr} (e : Γ.lookup y = some sl) (l : Looks h env y (.ref a)) : ∃ o, h.get? a = some o := by
  refine byEA (st.vars y sl e) fun v l' hh => ?_
  obtain rfl := l'.same l
  cases sl with
  | sh d =>
    cases d <;> simp only [Holds, Lay] at hh
    all_goals first
      | (obtain ⟨b, e, _, items, ⟨n, ho⟩, _⟩ := hh; cases e; exact ⟨_, ho⟩)
      | (obtain ⟨b, e, _, _, kvs, ⟨o, es, ep, ho, _⟩, _⟩ := hh; cases e; exact ⟨o, ho⟩)
      | (obtain ⟨t, e⟩ := hh; cases e)
      | (cases hh)
  | own a? d =>
    (refine byEAAA (hh) fun r e f g c => ?_; (try clear hh))
    cases e
    refine byEA (c.there) fun o ho _ => ?_
    exact ⟨o, ho⟩
theorem Stm.notNew (st : Stm B V₀ W h env Γ) (k : Kp h h') (new : h.get? a = none) {y : Str} {sl : Slot} {w : Value} (e : Γ.lookup y = some sl) (l : Looks h' env y w) : w ≠ .ref a := by
  rintro rfl
  refine byEA (st.r.vars y sl e) fun w' l' _ => ?_
  have := (l'.kp k).same l
  subst this
  refine byE (Slot.there st.r e l') fun o ho => ?_
  rw [new] at ho; cases ho
theorem Stm.grow2 (st : Stm B V₀ W h env Γ) (k : Kp h h') {a b : Addr} (na : h.get? a = none) (nb : h.get? b = none) (la : B.n₀ ≤ a) (lb : B.n₀ ≤ b) (ta : ∃ o, h'.get? a = some o ∧ ¬ IsPriv o) (tb : ∃ o, h'.get? b = some o ∧ ¬ IsPriv o) : Stm B V₀ (fun c => (W c ∨ c = a) ∨ c = b) h' env Γ := by
  have K : ∀ c o, ¬ (V₀ c ∨ W c) → h.get? c = some o → IsData o → ¬ (V₀ c ∨ (W c ∨ c = a) ∨ c = b) ∧ h'.get? c = some o := fun c o nc e i =>
    ⟨fun q => (by
      rcases q with q | (q | q) | q
      · exact nc (.inl q)
      · exact nc (.inr q)
      · subst q; rw [na] at e; cases e
      · subst q; rw [nb] at e; cases e), IsData.kept i (k c o e)⟩
  have st' := st.kp k
  refine ⟨⟨fun c hc => ?_, fun y sl e => ?_⟩, fun c q => ?_, st.frame, ⟨.inl (.inl st.loc.1), st'.loc.2⟩, fun y c m => ⟨.inl (.inl (st.cells y c m).1), (st'.cells y c m).2⟩, st.apart, st.kinds, fun y a? d w e l => ?_, st'.apo⟩
  · rcases hc with hc | (hc | hc) | hc
    · exact st'.r.domP c (.inl hc)
    · exact st'.r.domP c (.inr hc)
    · exact hc ▸ ta
    · exact hc ▸ tb
  · refine byEA (st.r.vars y sl e) fun v l hh => ?_
    refine ⟨v, l.kp k, ?_⟩
    cases sl with
    | sh d => exact Lay.mono K hh
    | own a? d =>
      (refine byEAAA (hh) fun r e f g c => ?_; (try clear hh))
      exact ⟨r, e, f, g.imp id fun z => .inl (.inl z), c.mono K fun o e i => IsData.kept i (k r o e)⟩
  · rcases q with (q | q) | q
    · exact st.hi c q
    · exact q ▸ la
    · exact q ▸ lb
  · refine byEAA (st'.own y a? d w e l) fun r e' w' nv => ?_
    exact ⟨r, e', .inl (.inl w'), nv⟩
structure Asg (B : Base) (k : Nat) (K : Kinds) (Γ : G) (t : Expr) (d : D) (Γ' : G) : Prop where
  run : ∀ (A : Around) (env : Env) (V₀ W : Addr → Prop) (s : Shared) (v : Value) (Q : Unit → Shared → Prop) (E : Value → Shared → Prop),
  Room k A → EnvOk K env → Inv B A s → Stm B V₀ W s.heap env Γ → Lay B (fun b => V₀ b ∨ W b) s.heap d v →
  (∀ s', Inv B A s' → Dom s.heap s'.heap → Ext W s.heap W s'.heap → Stm B V₀ W s'.heap env Γ' → Q () s') → wpAny B.M A (assign t env v) Q E s
theorem Asg.name (O : B.Ok) {x : Str} {p : Pos} {d : D} (hx : K x = some .local ∨ K x = some .cell) : Asg B k K Γ (.Name x p) d (put Γ x (.sh d)) := .mk fun A env V₀ W s v Q E rm eo i st l h =>
  wpAny_assign_Name (store_stm O eo hx i st (sl := .sh d) l (fun _ _ e => nomatch e) h)
structure AsgL (B : Base) (k : Nat) (K : Kinds) (Γ : G) (ts : List Expr) (ds : List D) (Γ' : G) : Prop where
  run : ∀ (A : Around) (env : Env) (V₀ W : Addr → Prop) (s : Shared) (vs : List Value) (Q : Unit → Shared → Prop) (E : Value → Shared → Prop),
  Room k A → EnvOk K env → Inv B A s → Stm B V₀ W s.heap env Γ → Lays B (fun b => V₀ b ∨ W b) s.heap ds vs →
  (∀ s', Inv B A s' → Dom s.heap s'.heap → Ext W s.heap W s'.heap → Stm B V₀ W s'.heap env Γ' → Q () s') → wpAny B.M A (assignInOrder ((assignEach ts env).map (·.2)) vs) Q E s
theorem lays_ext {ds : List D} {vs : List Value} (x : Lays B (fun b => V₀ b ∨ W b) h ds vs) (e : Ext W h W h') : Lays B (fun b => V₀ b ∨ W b) h' ds vs :=
  x.mono (offK e.kp (fun b q => .inr q) fun b q => .inl q)
theorem lay_ext {d : D} {v : Value} (x : Lay B (fun b => V₀ b ∨ W b) h d v) (e : Ext W h W h') : Lay B (fun b => V₀ b ∨ W b) h' d v :=
  x.mono (offK e.kp (fun b q => .inr q) fun b q => .inl q)
theorem AsgL.nil : AsgL B k K Γ [] [] Γ := .mk fun A env V₀ W s vs Q E rm eo i st l h => by
  simp only [Lays] at l; subst l
  exact wpAny_pure (h s i (.refl _) (.refl _ _) st)
theorem assignEach_cons {e : Expr} {es : List Expr} {env : Env} (h : notStar e = true) : assignEach (e :: es) env = (false, assign e env) :: assignEach es env := by
  cases e <;> first | rfl | exact nomatch (show false = true from h)
theorem AsgL.cons {t : Expr} {ts : List Expr} {d : D} {ds : List D} {Γ₁ Γ₂ : G} (x : Asg B k K Γ t d Γ₁) (y : AsgL B k K Γ₁ ts ds Γ₂) (hn : notStar t = true := by rfl) : AsgL B k K Γ (t :: ts) (d :: ds) Γ₂ :=
  .mk fun A env V₀ W s vs Q E rm eo i st l h => by
    simp only [Lays] at l
    (refine byEEA (l) fun v r hq3 hr4 => ?_; (try clear l); subst hq3; refine byA (hr4) fun l1 l2 => ?_; (try clear hr4))
    rw [assignEach_cons hn]
    show wpAny _ _ (do holding r (assign t env v); assignInOrder ((assignEach ts env).map (·.2)) r) Q E s
    exact wpAny_bind (wpAny_holding (x.run A env V₀ W s v _ E rm eo i st l1 fun s₁ i₁ d₁ e₁ st₁ => y.run A env V₀ W s₁ r Q E rm eo i₁ st₁ (lays_ext l2 e₁) fun s₂ i₂ d₂ e₂ st₂ => h s₂ i₂ (d₁.trans d₂) (e₁.trans e₂ d₁) st₂))
noncomputable def noStars : List Expr → Bool
  | [] => true
  | e :: r => notStar e && noStars r
theorem assignEach_len : ∀ (ts : List Expr) (env : Env), noStars ts = true → (assignEach ts env).length = ts.length ∧ (assignEach ts env).findIdx? (·.1) = none
  | [], env, _ => ⟨rfl, rfl⟩
  | e :: r, env, h => by
    simp only [noStars, Bool.and_eq_true] at h
    rw [assignEach_cons h.1]
    refine byA (assignEach_len r env h.2) fun a b => ?_
    exact ⟨by simp [a], by simp [List.findIdx?_cons, b]⟩
theorem draw_list {prog : Program} {w : World} {A : Around} {E : Value → Shared → Prop} {it l : Addr} {items : Array Value} (hne : l ≠ it) : ∀ (n i : Nat) (s : Shared) (Q : List Value → Shared → Prop), s.heap.IsListIter it l i → s.heap.IsList l items → i + n ≤ items.size →
    (∀ h', h'.IsListIter it l (i + n) → Heap.SameBut it s.heap h' → Q ((items.toList.drop i).take n) { s with heap := h' }) → wpAny (model prog w) A (draw (.ref it) n) Q E s
  | 0, i, s, Q, hit, _, _, hQ => by
    show wpAny _ _ (pure []) Q E s
    exact wpAny_pure (by simpa using hQ s.heap hit (Heap.SameBut.refl ..))
  | n + 1, i, s, Q, hit, ht, hle, hQ => by
    have hlt : i < items.size := by omega
    show wpAny _ _ (pyNext (.ref it) >>= _) Q E s
    refine wpAny_bind (wpAny_pyNext_list_item hit ht (x := items[i]) (by simp [hlt]) fun h₁ hit₁ hs₁ => ?_)
    refine wpAny_bind (wpAny_holding (draw_list hne n (i + 1) _ _ hit₁ (ht.extBut hs₁.extBut hne) (by omega) fun h₂ hit₂ hs₂ => wpAny_pure ?_))
    have hd : items.toList.drop i = items[i] :: items.toList.drop (i + 1) := by simp [List.drop_eq_getElem_cons, hlt]
    have := hQ h₂ (by rw [show i + (n + 1) = i + 1 + n by omega]; exact hit₂) (hs₁.trans hs₂)
    rw [hd, List.take_succ_cons] at this
    exact this
theorem unpackItems_list {prog : Program} {w : World} {A : Around} {E : Value → Shared → Prop} {s : Shared} {t : Addr} {items : Array Value} {Q : List Value → Shared → Prop} (hh : A.handled = none) (ht : s.heap.IsList t items)
    (hQ : ∀ h', Heap.ExtBut s.heap.objs.size s.heap h' → Q items.toList { s with heap := h' }) : wpAny (model prog w) A (unpackItems (.ref t) items.size none) Q E s := by
  have hlt : t ≠ s.heap.objs.size := by (refine byEA (ht) fun o ho _ => ?_; (try clear ht)); exact Nat.ne_of_lt (Heap.lt_size ho)
  unfold unpackItems
  refine wpAny_bind ?_
  unfold notIterableAtAll
  refine wpAny_bind (wpAny_specialOf ht.typeIs F.slot_list_iter.lookup ?_)
  refine wpAny_pure ?_
  simp only [Bool.false_eq_true, if_false]
  refine wpAny_bind (wpAny_holding (wpAny_pyIter_list ht ?_))
  refine wpAny_bind (wpAny_holding (draw_list hlt items.size 0 _ _ ⟨_, Heap.get?_push_size _ rfl, rfl, rfl⟩ (ht.push _) (by omega) fun h₁ hit₁ hs₁ => ?_))
  have hall : List.take items.size (List.drop 0 items.toList) = items.toList := by
    rw [List.drop_zero]; exact List.take_of_length_le (by simp)
  rw [hall]
  rw [if_neg (by simp)]
  have ht₁ : h₁.IsList t items := (ht.push _).extBut hs₁.extBut hlt
  refine wpAny_bind (wpAny_holding (wpAny_pyNext_list_end hh hit₁ ht₁ (by simp) fun h₂ he₂ => ?_))
  simp only [Option.isSome_none, Bool.false_eq_true, if_false]
  exact wpAny_pure (hQ h₂ fun b o hb e => he₂ b o hb (hs₁.extBut b o hb (Heap.get?_push_of_some _ e)))
theorem Asg.tup_of {ts : List Expr} {ds : List D} {d : D} {n : Nat} {p : Pos} {Γ' : G} (x : AsgL B (k + 1) K Γ ts ds Γ') (hl : ts.length = ds.length) (hs : noStars ts = true) (hd : d = .tup ds ∨ d = .list ds) (O : B.Ok) : Asg B (k + 1) K Γ (.Tuple ts n p) d Γ' :=
  .mk fun A env V₀ W s v Q E rm eo i st l h => by
    rw [arm_assign_Tuple]
    refine wpAny_bind (wpAny_standAt ?_)
    refine byA (assignEach_len ts env hs) fun e1 e2 => ?_
    unfold unpack
    have go : ∀ (items : Array Value) (h' : Heap), Lays B (fun b => V₀ b ∨ W b) s.heap ds items.toList → Heap.ExtBut s.heap.objs.size s.heap h' → wpAny B.M A (assignInOrder ((assignEach ts env).map (·.2)) items.toList) Q E { s with heap := h' } := fun items h' ls hx => by
      have kk : Kp s.heap h' := .of (keep_ext hx (Nat.le_refl _))
      exact x.run A env V₀ W { s with heap := h' } _ Q E rm eo (i.keep O (keep_ext hx (Nat.le_refl _))) (st.kp kk) (ls.kp kk) fun s₂ i₂ d₂ e₂ st₂ => h s₂ i₂ (kk.dom.trans d₂) ((Ext.of_kp kk).trans e₂ kk.dom) st₂
    rcases hd with rfl | rfl
    · simp only [Lay] at l
      (refine byEA (l) fun a hq5 hr6 => ?_; (try clear l); subst hq5; refine byA (hr6) fun _ hr7 => ?_; (try clear hr6); refine byEA (hr7) fun items it ls => ?_; (try clear hr7))
      have hz : (assignEach ts env).length = items.size := by rw [e1, hl, ← ls.length]; simp
      rw [hz, e2]
      exact wpAny_bind (wpAny_holding (wpAny_unpackItems_tuple (rm.handled (Nat.succ_pos _)) it.isTuple fun h' hx => go items h' ls hx))
    · simp only [Lay] at l
      (refine byEA (l) fun a hq8 hr9 => ?_; (try clear l); subst hq8; refine byA (hr9) fun _ hr10 => ?_; (try clear hr9); refine byEA (hr10) fun items it ls => ?_; (try clear hr10))
      have hz : (assignEach ts env).length = items.size := by rw [e1, hl, ← ls.length]; simp
      rw [hz, e2]
      exact wpAny_bind (wpAny_holding (unpackItems_list (rm.handled (Nat.succ_pos _)) it.isList fun h' hx => go items h' ls hx))
theorem Asg.tup (O : B.Ok) {ts : List Expr} {ds : List D} {n : Nat} {p : Pos} {Γ' : G} (x : AsgL B (k + 1) K Γ ts ds Γ') (hl : ts.length = ds.length := by rfl) (hs : noStars ts = true := by rfl) : Asg B (k + 1) K Γ (.Tuple ts n p) (.tup ds) Γ' := .tup_of x hl hs (.inl rfl) O
theorem Asg.tupL (O : B.Ok) {ts : List Expr} {ds : List D} {n : Nat} {p : Pos} {Γ' : G} (x : AsgL B (k + 1) K Γ ts ds Γ') (hl : ts.length = ds.length := by rfl) (hs : noStars ts = true := by rfl) : Asg B (k + 1) K Γ (.Tuple ts n p) (.list ds) Γ' := .tup_of x hl hs (.inr rfl) O
end
end Jv
namespace Jv
open PySem PySem.W PySem.Calls PyProof.Rows
section
variable {B : Base} {k : Nat} {K : Kinds} {Γ Γ' : G} {V₀ W : Addr → Prop} {h h' : Heap} {env : Env} {a : Addr}
theorem Stm.share (st : Stm B V₀ W h env Γ) {x : Str} {d : D} (hx : Γ.lookup x = some (.own none d)) : ∃ W', (∀ b, W' b → W b) ∧ Stm B V₀ W' h env (put Γ x (.sh d)) := by
  (refine byEA (st.r.vars x _ hx) fun v l hr1 => ?_; refine byEA (hr1) fun r hq2 hr3 => ?_; (try clear hr1); subst hq2; refine byAA (hr3) fun _ _ c => ?_; (try clear hr3))
  refine byEAA (st.own x none d _ hx l) fun r' e' wr nv => ?_
  cases e'
  refine byEA (c.there) fun o ho io => ?_
  have nf := io.nf
  have keepK : ∀ b o, ¬ (V₀ b ∨ W b) → h.get? b = some o → IsData o → ¬ (V₀ b ∨ (W b ∧ b ≠ r)) ∧ h.get? b = some o := fun b o nb e _ =>
    ⟨fun q => nb (q.imp id fun z => z.1), e⟩
  have ex : ∀ (y : Str) (sl : Slot) (w : Value), (put Γ x (.sh d)).lookup y = some sl → y ≠ x → Γ.lookup y = some sl := fun y sl w e hy => by
    rw [put_look] at e
    rwa [if_neg (fun q => hy (beq_iff_eq.mp q))] at e
  refine ⟨fun b => W b ∧ b ≠ r, fun b q => q.1, ⟨fun b hb => st.r.domP b (hb.imp id fun z => z.1), fun y sl e => ?_⟩, fun b q => st.hi b q.1, st.frame, ⟨⟨st.loc.1, ?_⟩, st.loc.2⟩, fun y c' m => ⟨⟨(st.cells y c' m).1, ?_⟩, (st.cells y c' m).2⟩, st.apart, st.kinds, fun y a? d' w e ly => ?_, fun y z ay dy az dz w ey ez ly lz => ?_⟩
  · by_cases hy : y = x
    · subst hy
      rw [put_look, if_pos (by simp)] at e
      cases e
      refine ⟨_, l, ?_⟩
      exact Content.lay (c.mono keepK fun o e _ => e) fun q => q.elim (nv rfl) fun z => z.2 rfl
    · refine byEA (st.r.vars y sl (ex y sl (.none) e hy)) fun w lw hh => ?_
      refine ⟨w, lw, ?_⟩
      cases sl with
      | sh d' => exact Lay.mono keepK hh
      | own a? d' =>
        (refine byEAAA (hh) fun q e' f g c' => ?_; (try clear hh))
        refine ⟨q, e', f, g.imp id fun z => ⟨z, ?_⟩, c'.mono keepK fun o e _ => e⟩
        rintro rfl
        subst e'
        exact hy (st.apo y x _ _ _ _ _ (ex y _ (.none) e hy) hx lw l)
  · rintro q
    (refine byA (st.loc) fun _ hr4 => ?_; refine byEE (hr4) fun o' es hr5 => ?_; (try clear hr4); refine byEAA (hr5) fun ep h1 h2 _ => ?_; (try clear hr5))
    rw [q, ho] at h1; cases h1
    exact nf.1 h2
  · rintro rfl
    refine byAEEAA (st.cells y c' m) fun _ v' o' h1 h2 _ => ?_
    rw [ho] at h1; cases h1
    exact nf.2 h2
  · have hy : y ≠ x := by
      rintro rfl
      rw [put_look, if_pos (by simp)] at e
      cases e
    refine byEAA (st.own y a? d' w (ex y _ w e hy) ly) fun q e' wq nq => ?_
    refine ⟨q, e', ⟨wq, ?_⟩, nq⟩
    rintro rfl
    subst e'
    exact hy (st.apo y x _ _ _ _ _ (ex y _ (.none) e hy) hx ly l)
  · have hy : y ≠ x := by
      rintro rfl
      rw [put_look, if_pos (by simp)] at ey
      cases ey
    have hz : z ≠ x := by
      rintro rfl
      rw [put_look, if_pos (by simp)] at ez
      cases ez
    exact st.apo y z ay dy az dz w (ex y _ w ey hy) (ex z _ w ez hz) ly lz
theorem Ex.share {ss : List Stmt} {o : Out} {x : Str} {d : D} (y : Ex B k K (put Γ x (.sh d)) ss o Γ') (hx : Γ.lookup x = some (.own none d)) : Ex B k K Γ ss o Γ' := .mk fun A env V₀ W s Q E rm eo i st h => by
  refine byEA (st.share hx) fun W' hw st' => ?_
  exact y.run A env V₀ W' s Q E rm eo i st' fun fl s' W'' i' dm ex st'' ou => h fl s' W'' i' dm ⟨fun b q => (ex.new b q).imp (hw b) id, fun b o nb e => ex.kp b o (fun q => nb (hw b q)) e⟩ st'' ou
theorem Ex1.assign {t value : Expr} {p : Pos} {d : D} (x : Ev B k K Γ value d) (y : Asg B k K Γ t d Γ') (hn : notStar t = true := by rfl)
    (hsw : ∀ env, swapsWithSole [t] value p.line env = pure false := by intro _; rfl) (hst : ∀ env, swappedStores [t] value env = pure none := by intro _; rfl) : Ex1 B k K Γ (.Assign [t] value p) .next Γ' := .mk fun A env V₀ W s Q E rm eo i st h => by
  refine wpAny_Assign_stores (x.run A env _ s _ E rm eo i st.r fun v s₁ i₁ k₁ l₁ => ?_) (hsw env) (hst env)
  rw [assignEach_cons hn]
  exact y.run A env V₀ W s₁ v _ E rm eo i₁ (st.kp k₁) l₁ fun s₂ i₂ d₂ e₂ st₂ => h .next s₂ W i₂ (k₁.dom.trans d₂) ((Ext.of_kp k₁).trans e₂ k₁.dom) st₂ rfl
theorem Ex1.assign2 {t t' value : Expr} {p : Pos} {d : D} {Γ₁ : G} (x : Ev B k K Γ value d) (y : Asg B k K Γ t d Γ₁) (z : Asg B k K Γ₁ t' d Γ') (hn : notStar t = true := by rfl) (hn' : notStar t' = true := by rfl)
    (hsw : ∀ env, swapsWithSole [t, t'] value p.line env = pure false := by intro _; rfl) (hst : ∀ env, swappedStores [t, t'] value env = pure none := by intro _; rfl) : Ex1 B k K Γ (.Assign [t, t'] value p) .next Γ' := .mk fun A env V₀ W s Q E rm eo i st h => by
  refine wpAny_Assign_stores (x.run A env _ s _ E rm eo i st.r fun v s₁ i₁ k₁ l₁ => ?_) (hsw env) (hst env)
  rw [assignEach_cons hn, assignEach_cons hn']
  show wpAny _ _ (do holding [v] (PySem.assign t env v); PySem.assign t' env v) _ E s₁
  exact wpAny_bind (wpAny_holding (y.run A env V₀ W s₁ v _ E rm eo i₁ (st.kp k₁) l₁ fun s₂ i₂ d₂ e₂ st₂ =>
    z.run A env V₀ W s₂ v _ E rm eo i₂ st₂ (lay_ext l₁ e₂) fun s₃ i₃ d₃ e₃ st₃ => h .next s₃ W i₃ ((k₁.dom.trans d₂).trans d₃) (((Ext.of_kp k₁).trans e₂ k₁.dom).trans e₃ (k₁.dom.trans d₂)) st₃ rfl))
theorem Stm.drop (st : Stm B V₀ W h env Γ) {C : Addr} (wC : W C) (nv : ¬ V₀ C) (hs : Heap.SameBut C h h') (hl : env.locals ≠ C) (hc : ∀ y c, (y, c) ∈ env.cells → c ≠ C) (ho : ∀ y a? d v, Γ.lookup y = some (.own a? d) → Looks h env y v → v ≠ .ref C) :
    Stm B V₀ (fun b => W b ∧ b ≠ C) h' env Γ := by
  have keepK : ∀ b o, ¬ (V₀ b ∨ W b) → h.get? b = some o → IsData o → ¬ (V₀ b ∨ (W b ∧ b ≠ C)) ∧ h'.get? b = some o := fun b o nb e _ => ⟨fun q => nb (q.imp id fun z => z.1), (hs.2 b fun q => nb (.inr (q ▸ wC))).trans e⟩
  have fw : ∀ y w, Looks h env y w → Looks h' env y w := fun y w l => by
    rcases l with ⟨e, m, am, bm⟩ | ⟨e, c, am, bm⟩
    · exact .inl ⟨e, m, am.kept fun o eo => .inl ((hs.2 _ hl).trans eo), bm⟩
    · exact .inr ⟨e, c, am, bm.kept fun o eo => .inl ((hs.2 _ (hc y c (mem_of_lookup am))).trans eo)⟩
  have back : ∀ y w, (∃ sl', Γ.lookup y = some sl') → Looks h' env y w → Looks h env y w := fun y w hx l => by
    (refine byE (hx) fun sl' e => ?_; (try clear hx))
    refine byEA (st.r.vars y sl' e) fun w' l' _ => ?_
    exact (fw y w' l').same l ▸ l'
  refine ⟨⟨fun b hb => ?_, fun y sl e => ?_⟩, fun b q => st.hi b q.1, st.frame, ⟨⟨st.loc.1, hl⟩, ?_⟩, fun y c m => ⟨⟨(st.cells y c m).1, hc y c m⟩, ?_⟩, st.apart, st.kinds, fun y a? d w e l => ?_, fun y z ay dy az dz w ey ez ly lz => st.apo y z ay dy az dz w ey ez (back y w ⟨_, ey⟩ ly) (back z w ⟨_, ez⟩ lz)⟩
  · have : b ≠ C := hb.elim (fun q => by rintro rfl; exact nv q) fun q => q.2
    refine byEA (st.r.domP b (hb.imp id fun z => z.1)) fun o e n => ?_
    exact ⟨o, (hs.2 b this).trans e, n⟩
  · refine byEA (st.r.vars y sl e) fun v l hh => ?_
    refine ⟨v, fw y v l, ?_⟩
    cases sl with
    | sh d => exact Lay.mono keepK hh
    | own a? d =>
      (refine byEAAA (hh) fun r e' f g c => ?_; (try clear hh))
      have hr : r ≠ C := by rintro rfl; exact ho y a? d v e l e'
      exact ⟨r, e', f, g.imp id fun z => ⟨z, hr⟩, c.mono keepK fun o eo _ => (hs.2 r hr).trans eo⟩
  · (refine byA (st.loc) fun _ hr6 => ?_; refine byEE (hr6) fun o es hr7 => ?_; (try clear hr6); refine byEA (hr7) fun ep h1 h2 => ?_; (try clear hr7))
    exact ⟨o, es, ep, (hs.2 _ hl).trans h1, h2⟩
  · (refine byA (st.cells y c m) fun _ hr8 => ?_; refine byE (hr8) fun v c' => ?_; (try clear hr8))
    exact ⟨v, c'.kept fun o eo => .inl ((hs.2 _ (hc y c m)).trans eo)⟩
  · have l' := back y w ⟨_, e⟩ l
    refine byEAA (st.own y a? d w e l') fun r e' wr nr => ?_
    exact ⟨r, e', ⟨wr, by rintro rfl; exact ho y a? d w e l' e'⟩, nr⟩
theorem store_new (O : B.Ok) {A : Around} {s : Shared} {x : Str} {d : D} {a : Addr} {h₀ : Heap} {Q : Unit → Shared → Prop} {E : Value → Shared → Prop} (eo : EnvOk K env) (hx : K x = some .local ∨ K x = some .cell)
    (i : Inv B A s) (st : Stm B V₀ W h₀ env Γ) (kk : Kp h₀ s.heap) (new : h₀.get? a = none) (lo : B.n₀ ≤ a) (c : Content B (fun b => (V₀ b ∨ W b) ∨ b = a) s.heap d a)
    (hQ : ∀ s', Inv B A s' → Dom h₀ s'.heap → Ext W h₀ (fun b => W b ∨ b = a) s'.heap → Stm B V₀ (fun b => W b ∨ b = a) s'.heap env (put Γ x (.own none d)) → Q () s') : wpAny B.M A (storeName env x (.ref a)) Q E s := by
  refine byEA (c.there) fun o ho io => ?_
  have st' := st.grow kk new lo ⟨o, ho, fun q => q.1 io⟩
  have e0 : Ext W h₀ (fun b => W b ∨ b = a) s.heap := ⟨fun b (q : W b ∨ b = a) => q.imp id fun (z : b = a) => z.symm ▸ new, kk.off _⟩
  have hh : Holds B (fun b => V₀ b ∨ (W b ∨ b = a)) s.heap (.own none d) (.ref a) := ⟨a, rfl, (fun _ e => nomatch e), .inr (.inr rfl), c.shrink fun b (q : V₀ b ∨ W b ∨ b = a) => (by
    rcases q with q | q | q
    · exact .inl (.inl q)
    · exact .inl (.inr q)
    · exact .inr q)⟩
  refine store_stm O eo hx i st' (sl := .own none d) hh (fun a? d' e => ?_) fun s' i' dm ex st'' => hQ s' i' (kk.dom.trans dm) (e0.trans ex kk.dom) st''
  · refine ⟨⟨a, rfl, .inr rfl, fun _ q => ?_⟩, fun y a?' d'' w hy ey ly => st.notNew kk new ey ly⟩
    refine byE (st.r.dom a (.inl q)) fun o' e' => ?_
    rw [new] at e'; cases e'
theorem Ex1.assignF (O : B.Ok) {x : Str} {p' p : Pos} {value : Expr} {d : D} (y : EvF B k K Γ value d) (hx : K x = some .local ∨ K x = some .cell)
    (hsw : ∀ env, swapsWith value (some (.Name x p')) p.line env = pure false := by intro _; rfl) : Ex1 B k K Γ (.Assign [.Name x p'] value p) .next (put Γ x (.own none d)) := .mk fun A env V₀ W s Q E rm eo i st h =>
  wpAny_Assign_Name (y.run A env _ s _ E rm eo i st.r fun a s₁ i₁ k₁ new lo c => store_new O eo hx i₁ st k₁ new lo c fun s₂ i₂ d₂ e₂ st₂ => h .next s₂ _ i₂ d₂ e₂ st₂ rfl) (hsw env)
theorem Ex1.ife {t : Expr} {b e : List Stmt} {p : Pos} {c : Bool} {o : Out} (x : EvT B k K Γ t c) (y : c = true → Ex B k K Γ b o Γ') (z : c = false → Ex B k K Γ e o Γ') : Ex1 B k K Γ (.If t b e p) o Γ' := .mk fun A env V₀ W s Q E rm eo i st h => by
  refine wpAny_If (x.run A env _ s _ E rm eo i st.r fun s₁ i₁ k₁ => ?_)
  have go : ∀ ss, Ex B k K Γ ss o Γ' → wpAny B.M A (execs ss env) Q E s₁ := fun ss w => w.run A env V₀ W s₁ Q E rm eo i₁ (st.kp k₁) fun fl s₂ W₂ i₂ d₂ e₂ st₂ ou => h fl s₂ W₂ i₂ (k₁.dom.trans d₂) ((Ext.of_kp k₁).trans e₂ k₁.dom) st₂ ou
  cases c with
  | true => rw [if_pos rfl]; exact go _ (y rfl)
  | false => rw [if_neg (by simp)]; exact go _ (z rfl)
theorem Ex1.ret {e : Expr} {p : Pos} {d : D} (x : Ev B k K Γ e d) : Ex1 B k K Γ (.Return (some e) p) (.ret d) Γ := .mk fun A env V₀ W s Q E rm eo i st h =>
  wpAny_Return_some (x.run A env _ s _ E rm eo i st.r fun v s₁ i₁ k₁ l₁ => h (.ret v) s₁ W i₁ k₁.dom (.of_kp k₁) (st.kp k₁) ⟨v, rfl, l₁⟩)
theorem Ex1.brk {p : Pos} : Ex1 B k K Γ (.Break p) .brk Γ := .mk fun A env V₀ W s Q E rm eo i st h => by
  show wpAny _ _ (do standAt p; pure .brk) Q E s
  exact wpAny_bind (wpAny_standAt (wpAny_pure (h .brk s W i (.refl _) (.refl _ _) st rfl)))
theorem Ex1.exprM {e : Expr} {p : Pos} {d : D} (x : EvM B k K Γ e d Γ') (hsw : ∀ env, swapsWith e none p.line env = pure false := by intro _; rfl) : Ex1 B k K Γ (.Expr e p) .next Γ' := .mk fun A env V₀ W s Q E rm eo i st h =>
  wpAny_Expr_any (x.run A env V₀ W s _ E rm eo i st fun v s₁ W₁ i₁ d₁ e₁ st₁ l₁ => h .next s₁ W₁ i₁ d₁ e₁ st₁ rfl) (by unfold interactive; rw [eo.fn]; rfl) (hsw env)
noncomputable def InpR (B : Base) (k : Nat) (op : Operator) (d₁ d₂ d : D) : Prop := ∀ (A : Around) (V : Addr → Prop) (s : Shared) (v₁ v₂ : Value) (Q : Value → Shared → Prop) (E : Value → Shared → Prop),
  Room k A → Inv B A s → (∀ b, V b → ∃ o, s.heap.get? b = some o) → LayB B V s.heap d₁ v₁ → LayB B V s.heap d₂ v₂ → (∀ v s', Inv B A s' → Kp s.heap s'.heap → Lay B V s'.heap d v → Q v s') → wpAny B.M A (inplaceOp op v₁ v₂) Q E s
theorem Ex1.aug (O : B.Ok) {x : Str} {p' p : Pos} {op : Operator} {e : Expr} {d d' d'' : D} (hx : Γ.lookup x = some (.sh d)) (y : EvB B k K Γ e d') (z : InpR B k op d d' d'') (hk : K x = some .local ∨ K x = some .cell)
    (h2 : (x == ("__classdict__" : Str)) = false := by decide) : Ex1 B k K Γ (.AugAssign (.Name x p') op e p) .next (put Γ x (.sh d'')) := .mk fun A env V₀ W s Q E rm eo i st h => by
  refine byEA (st.r.vars x _ hx) fun v l hv => ?_
  refine wpAny_AugAssign_Name (loadName_looks eo l h2 (y.run A env _ s _ E rm eo i st.r fun v' s₁ i₁ k₁ l₁ => z A _ s₁ v v' _ E rm i₁ (st.r.kp k₁).dom (.inl (Lay.kp hv k₁)) l₁ fun v'' s₂ i₂ k₂ l₂ => ?_))
  exact store_stm O eo hk i₂ ((st.kp k₁).kp k₂) (sl := .sh d'') l₂ (fun _ _ e => nomatch e) fun s₃ i₃ d₃ e₃ st₃ => h .next s₃ W i₃ ((k₁.trans k₂).dom.trans d₃) ((Ext.of_kp (k₁.trans k₂)).trans e₃ (k₁.trans k₂).dom) st₃ rfl
structure Iter (B : Base) (A : Around) (I : Addr) (fp bp : Addr → Prop) (tup : Bool) (St : (Addr → Prop) → List D → Heap → Prop) (StO : (Addr → Prop) → List D → Value → Heap → Prop) : Prop where
  frame : ∀ V V' ds h h', St V ds h → (∀ b, V' b → V b ∨ h.get? b = none) → (∀ b o, h.get? b = some o → (fp b ∨ bp b ∨ (¬ V b ∧ IsData o)) → h'.get? b = some o) → St V' ds h'
  item : ∀ V d ds (s : Shared) (Q : Option Value → Shared → Prop) (E : Value → Shared → Prop), Inv B A s → (∀ b, V b → ∃ o, s.heap.get? b = some o) → St V (d :: ds) s.heap →
    (∀ v s', Inv B A s' → StO V ds v s'.heap → (∀ b o, s.heap.get? b = some o → ¬ fp b → s'.heap.get? b = some o) → Lay B (fun b => V b ∨ fp b) s'.heap d v → Q (some v) s') → wpAny B.M A (pyNext (.ref I)) Q E s
  done : ∀ V (s : Shared) (Q : Option Value → Shared → Prop) (E : Value → Shared → Prop), Inv B A s → St V [] s.heap →
    (∀ s', Inv B A s' → (∀ b o, s.heap.get? b = some o → ¬ fp b → s'.heap.get? b = some o) → Q none s') → wpAny B.M A (pyNext (.ref I)) Q E s
  self : ∀ V ds (s : Shared) (Q : Value → Shared → Prop) (E : Value → Shared → Prop), St V ds s.heap → Q (.ref I) s → wpAny B.M A (pyIter (.ref I)) Q E s
  own : ∀ V ds ts n p (v : Value) (s : Shared) (Q : Unit → Shared → Prop) (E : Value → Shared → Prop), Inv B A s → StO V ds v s.heap →
    (∀ s', Inv B A s' → St V ds s'.heap → (∀ b o, s.heap.get? b = some o → ¬ fp b → s'.heap.get? b = some o) → Q () s') → wpAny B.M A (letOwnedTupleGo (.Tuple ts n p) (.ref I) v) Q E s
  plain : tup = false → ∀ V ds v h, StO V ds v h → St V ds h
  there : ∀ V ds h b, St V ds h → fp b → ∃ o, h.get? b = some o ∧ IsPriv o ∧ o.cls ≠ .none
  thereO : ∀ V ds v h b, StO V ds v h → fp b → ∃ o, h.get? b = some o ∧ IsPriv o ∧ o.cls ≠ .none
  data : ∀ V ds h b, St V ds h → bp b → ∃ o, h.get? b = some o ∧ IsData o
structure EvI (B : Base) (k : Nat) (K : Kinds) (Γ : G) (e : Expr) (tup : Bool) (ds : List D) : Prop where
  run : ∀ (A : Around) (env : Env) (V : Addr → Prop) (s : Shared) (Q : Value → Shared → Prop) (E : Value → Shared → Prop),
  Room k A → EnvOk K env → Inv B A s → EnvR B V s.heap env Γ →
  (∀ I fp bp St StO s', Inv B A s' → Kp s.heap s'.heap → Iter B A I fp bp tup St StO → St V ds s'.heap → (∀ b, fp b → s.heap.get? b = none) → (∀ b, bp b → False) → Q (.ref I) s') →
  wpAny B.M A (eval e env) (fun x s₁ => wpAny B.M A (pyIter x) Q E s₁) E s
structure EvIB (B : Base) (k : Nat) (K : Kinds) (Γ : G) (e : Expr) (ds : List D) : Prop where
  run : ∀ (A : Around) (env : Env) (V : Addr → Prop) (s : Shared) (Q : Value → Shared → Prop) (E : Value → Shared → Prop),
  Room k A → EnvOk K env → Inv B A s → EnvR B V s.heap env Γ →
  (∀ I fp bp St StO s', Inv B A s' → Kp s.heap s'.heap → Iter B A I fp bp false St StO → St V ds s'.heap → (∀ b, fp b → s.heap.get? b = none) → Q (.ref I) s') →
  wpAny B.M A (eval e env) (fun x s₁ => wpAny B.M A (pyIter x) Q E s₁) E s
theorem EvI.b {e : Expr} {ds : List D} (x : EvI B k K Γ e false ds) : EvIB B k K Γ e ds := .mk fun A env V s Q E rm o i g h =>
  x.run A env V s Q E rm o i g fun I fp bp St StO s' i' k' it st nf nb => h I fp bp St StO s' i' k' it st nf
noncomputable def tgtOk (tup : Bool) : Expr → Bool
  | .Tuple .. => true
  | .Name .. => !tup
  | _ => false
inductive Loop (B : Base) (k : Nat) (K : Kinds) (t : Expr) (body : List Stmt) : G → List D → Out → G → Prop
  | done {X : G} : Loop B k K t body X [] .next X
  | step {X X₁ X₂ X₃ : G} {d ds o} : Asg B k K X t d X₁ → Ex B k K X₁ body .next X₂ → Loop B k K t body X₂ ds o X₃ → Loop B k K t body X (d :: ds) o X₃
  | brk {X X₁ X₂ : G} {d ds} : Asg B k K X t d X₁ → Ex B k K X₁ body .brk X₂ → Loop B k K t body X (d :: ds) .next X₂
  | ret {X X₁ X₂ : G} {d ds r} : Asg B k K X t d X₁ → Ex B k K X₁ body (.ret r) X₂ → Loop B k K t body X (d :: ds) (.ret r) X₂
end
end Jv
namespace Jv
open PySem PySem.W PySem.Calls PyProof.Rows
section
variable {B : Base} {k : Nat} {K : Kinds} {Γ Γ' : G} {V₀ W : Addr → Prop} {h h' : Heap} {env : Env} {a : Addr}
theorem kq_off {fp : Addr → Prop} (x : ∀ b o, h.get? b = some o → ¬ fp b → h'.get? b = some o) (y : ∀ b, fp b → ∃ o, h.get? b = some o ∧ IsPriv o ∧ o.cls ≠ .none) : Kq h h' := fun b o e => by
  by_cases f : fp b
  · refine byEAA (y b f) fun o' e' p _ => ?_
    rw [e] at e'; cases e'
    exact .inr (.inr p)
  · exact .inl (x b o e f)
theorem dom_off {fp : Addr → Prop} (x : ∀ b o, h.get? b = some o → ¬ fp b → h'.get? b = some o) (y : ∀ b, fp b → ∃ o, h'.get? b = some o) : Dom h h' := fun b o e => by
  by_cases f : fp b
  · exact y b f
  · exact ⟨o, x b o e f⟩
theorem ext_off {fp W' : Addr → Prop} {h₀ : Heap} (x : Ext W h₀ W' h) (y : ∀ b o, h.get? b = some o → ¬ fp b → h'.get? b = some o) (nf : ∀ b, fp b → h₀.get? b = none) : Ext W h₀ W' h' :=
  ⟨x.new, KpOff.trans x.kp (W' := fp) (fun b o nb e => .inl (y b o e nb)) fun b o f e => by rw [nf b f] at e; cases e⟩
theorem Ex1.for_ {t iter : Expr} {body : List Stmt} {p : Pos} {tup : Bool} {ds : List D} {o : Out} (x : EvI B k K Γ iter tup ds) (y : Loop B k K t body Γ ds o Γ') (ht : tgtOk tup t = true := by rfl)
    (hs : ∀ env v, foldedSetIterable iter env v = pure v := by intro _ _; rfl) : Ex1 B k K Γ (.For t iter body [] p) o Γ' := .mk fun A env V₀ W s Q E rm eo i st h => by
  refine wpAny_For (x.run A env _ s _ E rm eo i st.r fun I fp bp St StO s₁ i₁ k₁ it hst nf nb => ?_) (hs env)
  have nW : ∀ b, fp b → ¬ W b := fun b f q => by
    refine byE (st.r.dom b (.inr q)) fun o e => ?_
    rw [nf b f] at e; cases e
  have own : ∀ {V : Addr → Prop} (d : D) (ds₁ : List D) (v : Value) (s : Shared) (Q : Unit → Shared → Prop) (E : Value → Shared → Prop), Inv B A s → StO V ds₁ v s.heap →
      (∀ s', Inv B A s' → St V ds₁ s'.heap → (∀ b o, s.heap.get? b = some o → ¬ fp b → s'.heap.get? b = some o) → Q () s') → wpAny B.M A (letOwnedTupleGo t (.ref I) v) Q E s := by
    intro V d ds₁ v s Q E i so hQ
    cases t with
    | Name id p' =>
      have ht' : tup = false := by cases tup with
        | false => rfl
        | true => cases ht
      exact wpAny_pure (hQ s i (it.plain ht' _ _ _ _ so) fun _ _ e _ => e)
    | Tuple elts n p' => exact it.own V ds₁ _ _ _ v s Q E i so hQ
    | _ => cases ht
  refine codeAny_forLoop_any (fun n s' => ∃ Δ ds' W', n = ds'.length ∧ Inv B A s' ∧ Dom s.heap s'.heap ∧ Ext W s.heap W' s'.heap ∧ Stm B V₀ W' s'.heap env Δ ∧ Loop B k K t body Δ ds' o Γ' ∧ St (fun b => V₀ b ∨ W' b) ds' s'.heap ∧ ∀ b, fp b → ¬ W' b) ?_ ds.length
    ⟨Γ, ds, W, rfl, i₁, k₁.dom, .of_kp k₁, st.kp k₁, y, hst, nW⟩
  rintro n s' ⟨Δ, ds', W', rfl, i', dm', ex', st', lp, hst', nW'⟩
  cases lp with
  | done =>
    refine it.done _ s' _ _ i' hst' fun s₂ i₂ off => wpAny_execs_nil ?_
    have kq := kq_off off (fun b f => it.there _ _ _ b hst' f)
    have dm2 : Dom s.heap s₂.heap := fun b o e => by
      refine byE (dm' b o e) fun o' e' => ?_
      exact ⟨o', off b o' e' fun f => by rw [nf b f] at e; cases e⟩
    exact h .next s₂ W' i₂ dm2 (ext_off ex' off nf) (st'.kq kq) rfl
  | @step _ X₁ X₂ _ d ds₁ _ as bd lp' =>
    refine it.item _ d ds₁ s' _ _ i' st'.r.dom hst' fun v s₂ i₂ so₂ off₂ l₂ => ?_
    have dm₂ : Dom s'.heap s₂.heap := dom_off off₂ fun b f => let ⟨o, e, _⟩ := it.thereO _ _ _ _ b so₂ f; ⟨o, e⟩
    have kq₂ := kq_off off₂ (fun b f => it.there _ _ _ b hst' f)
    refine own d ds₁ v s₂ _ _ i₂ so₂ fun s₃ i₃ st₃ off₃ => ?_
    have dm₃ : Dom s₂.heap s₃.heap := dom_off off₃ fun b f => let ⟨o, e, _⟩ := it.there _ _ _ b st₃ f; ⟨o, e⟩
    have kq₃ := kq_off off₃ (fun b f => it.thereO _ _ _ _ b so₂ f)
    have sm₃ := (st'.kq kq₂).kq kq₃
    have ex₃ := ext_off (ext_off ex' off₂ nf) off₃ nf
    have l₃ : Lay B (fun b => V₀ b ∨ W' b) s₃.heap d v := (l₂.mono (V' := fun b => V₀ b ∨ W' b) fun b o nb e _ => ⟨fun q => nb (.inl q), off₃ b o e fun f => nb (.inr f)⟩)
    refine as.run A env V₀ W' s₃ v _ _ rm eo i₃ sm₃ l₃ fun s₄ i₄ dm₄ ex₄ st₄ => ?_
    refine bd.run A env V₀ W' s₄ _ _ rm eo i₄ st₄ fun fl s₅ W₅ i₅ dm₅ ex₅ st₅ ou => ?_
    obtain rfl : fl = .next := ou
    have e35 := ex₄.trans ex₅ dm₄
    refine ⟨ds₁.length, by simp, X₂, ds₁, W₅, rfl, i₅, (((dm'.trans dm₂).trans dm₃).trans dm₄).trans dm₅, ex₃.trans e35 ((dm'.trans dm₂).trans dm₃), st₅, lp', ?_, fun b f q => ?_⟩
    · refine it.frame _ _ _ _ _ st₃ (fun b q => ?_) fun b o e q => ?_
      · rcases q with q | q
        · exact .inl (.inl q)
        · exact (e35.new b q).imp .inr id
      · rcases q with q | q | q
        · refine byEAA (it.there _ _ _ b st₃ q) fun o' e' p c => ?_
          rw [e] at e'; cases e'
          exact (e35.kp b o (nW' b q) e).exact p.2.1 c
        · exact (nb b q).elim
        · exact q.2.kept (e35.kp b o (fun w => q.1 (.inr w)) e)
    · rcases e35.new b q with q | q
      · exact nW' b f q
      · refine byEA (it.there _ _ _ b st₃ f) fun o' e' _ => ?_
        rw [q] at e'; cases e'
  | @brk _ X₁ _ d ds₁ as bd =>
    refine it.item _ d ds₁ s' _ _ i' st'.r.dom hst' fun v s₂ i₂ so₂ off₂ l₂ => ?_
    have dm₂ : Dom s'.heap s₂.heap := dom_off off₂ fun b f => let ⟨o, e, _⟩ := it.thereO _ _ _ _ b so₂ f; ⟨o, e⟩
    have kq₂ := kq_off off₂ (fun b f => it.there _ _ _ b hst' f)
    refine own d ds₁ v s₂ _ _ i₂ so₂ fun s₃ i₃ st₃ off₃ => ?_
    have dm₃ : Dom s₂.heap s₃.heap := dom_off off₃ fun b f => let ⟨o, e, _⟩ := it.there _ _ _ b st₃ f; ⟨o, e⟩
    have kq₃ := kq_off off₃ (fun b f => it.thereO _ _ _ _ b so₂ f)
    have sm₃ := (st'.kq kq₂).kq kq₃
    have ex₃ := ext_off (ext_off ex' off₂ nf) off₃ nf
    have l₃ : Lay B (fun b => V₀ b ∨ W' b) s₃.heap d v := (l₂.mono (V' := fun b => V₀ b ∨ W' b) fun b o nb e _ => ⟨fun q => nb (.inl q), off₃ b o e fun f => nb (.inr f)⟩)
    refine as.run A env V₀ W' s₃ v _ _ rm eo i₃ sm₃ l₃ fun s₄ i₄ dm₄ ex₄ st₄ => ?_
    refine bd.run A env V₀ W' s₄ _ _ rm eo i₄ st₄ fun fl s₅ W₅ i₅ dm₅ ex₅ st₅ ou => ?_
    obtain rfl : fl = .brk := ou
    exact h .next s₅ W₅ i₅ ((((dm'.trans dm₂).trans dm₃).trans dm₄).trans dm₅) (ex₃.trans (ex₄.trans ex₅ dm₄) ((dm'.trans dm₂).trans dm₃)) st₅ rfl
  | @ret _ X₁ _ d ds₁ r as bd =>
    refine it.item _ d ds₁ s' _ _ i' st'.r.dom hst' fun v s₂ i₂ so₂ off₂ l₂ => ?_
    have dm₂ : Dom s'.heap s₂.heap := dom_off off₂ fun b f => let ⟨o, e, _⟩ := it.thereO _ _ _ _ b so₂ f; ⟨o, e⟩
    have kq₂ := kq_off off₂ (fun b f => it.there _ _ _ b hst' f)
    refine own d ds₁ v s₂ _ _ i₂ so₂ fun s₃ i₃ st₃ off₃ => ?_
    have dm₃ : Dom s₂.heap s₃.heap := dom_off off₃ fun b f => let ⟨o, e, _⟩ := it.there _ _ _ b st₃ f; ⟨o, e⟩
    have kq₃ := kq_off off₃ (fun b f => it.thereO _ _ _ _ b so₂ f)
    have sm₃ := (st'.kq kq₂).kq kq₃
    have ex₃ := ext_off (ext_off ex' off₂ nf) off₃ nf
    have l₃ : Lay B (fun b => V₀ b ∨ W' b) s₃.heap d v := (l₂.mono (V' := fun b => V₀ b ∨ W' b) fun b o nb e _ => ⟨fun q => nb (.inl q), off₃ b o e fun f => nb (.inr f)⟩)
    refine as.run A env V₀ W' s₃ v _ _ rm eo i₃ sm₃ l₃ fun s₄ i₄ dm₄ ex₄ st₄ => ?_
    refine bd.run A env V₀ W' s₄ _ _ rm eo i₄ st₄ fun fl s₅ W₅ i₅ dm₅ ex₅ st₅ ou => ?_
    have hh := h fl s₅ W₅ i₅ ((((dm'.trans dm₂).trans dm₃).trans dm₄).trans dm₅) (ex₃.trans (ex₄.trans ex₅ dm₄) ((dm'.trans dm₂).trans dm₃)) st₅ ou
    (refine byEA (ou) fun v' hq1 _ => ?_; (try clear ou); subst hq1)
    exact hh
end
end Jv
namespace Jv
open PySem PySem.W PySem.Calls PyProof.Rows
noncomputable def relK (K : Kinds) (sc : Scope) : Kinds := fun y => (sc.names.map fun (n, k) => if (k == .free && K n == some .cell) then (n, NameKind.cell) else (n, k)).lookup y
theorem relabel_ok {K : Kinds} {env : Env} {sc : Scope} (eo : EnvOk K env) (y : Str) : (relabel sc env).names.lookup y = relK K sc y := by
  unfold relabel relK
  congr 1
  refine List.map_congr_left fun x _ => ?_
  obtain ⟨n, k⟩ := x
  have h1 : env.kindOf n = K n := eo.kind n
  simp only [eo.fn, h1]
  simp
structure CStm (B : Base) (V Wc : Addr → Prop) (h : Heap) (env : Env) (x : Str) (Γ : G) : Prop where
  r : EnvR B V h env Γ
  sub : ∀ b, Wc b → V b ∧ B.n₀ ≤ b
  loc : Wc env.locals ∧ ∃ o es ep, h.get? env.locals = some o ∧ o.cls = .type "dict" ∧ o.data = .dict es ep ∧ StrKeys es
  tgt : env.kindOf x = some .local ∨ (env.kindOf x = some .cell ∧ ∃ c, env.cells.lookup x = some c ∧ Wc c ∧ ∃ v, CellAt h c v)
  apart : ∀ c, env.cells.lookup x = some c → env.kindOf x = some .cell → ∀ y, y ≠ x → env.cells.lookup y ≠ some c
  nown : ∀ y a? d v, Γ.lookup y = some (.own a? d) → Looks h env y v → ∃ r, v = .ref r ∧ ¬ Wc r
section
variable {B : Base} {k : Nat} {K : Kinds} {Γ Γ' : G} {V Wc : Addr → Prop} {h h' : Heap} {env : Env} {x : Str}
theorem CStm.kq (st : CStm B V Wc h env x Γ) (k : Kq h h') (hl : ∀ o, h.get? env.locals = some o → h'.get? env.locals = some o) : CStm B V Wc h' env x Γ := by
  refine ⟨st.r.kq k, st.sub, ⟨st.loc.1, ?_⟩, ?_, st.apart, fun y a? d v e l => ?_⟩
  · (refine byA (st.loc) fun _ hr1 => ?_; refine byEE (hr1) fun o es hr2 => ?_; (try clear hr1); refine byEA (hr2) fun ep h1 h2 => ?_; (try clear hr2))
    exact ⟨o, es, ep, hl o h1, h2⟩
  · rcases st.tgt with t | ⟨t, c, h1, h2, v, h3⟩
    · exact .inl t
    · exact .inr ⟨t, c, h1, h2, v, h3.keptQ fun o e => k _ o e⟩
  · refine byEA (st.r.vars y _ e) fun v' l' _ => ?_
    exact st.nown y a? d v e ((l'.kq k).same l ▸ l')
theorem CStm.less (st : CStm B V Wc h env x Γ') (hs : ∀ y sl, Γ.lookup y = some sl → Γ'.lookup y = some sl) : CStm B V Wc h env x Γ :=
  ⟨⟨st.r.domP, fun y sl e => st.r.vars y sl (hs y sl e)⟩, st.sub, st.loc, st.tgt, st.apart, fun y a? d v e l => st.nown y a? d v (hs y _ e) l⟩
theorem CStm.app (st : CStm B V Wc h env x Γ) {a : Addr} (hs : Heap.SameBut a h h') (wa : Wc a) (ho : ∃ o, h.get? a = some o ∧ o.cls = .type "list") (ht : ∃ o', h'.get? a = some o' ∧ o'.cls = .type "list") : CStm B V Wc h' env x Γ := by
  (refine byEA (ho) fun oa hoa hca => ?_; (try clear ho))
  (refine byA (st.loc) fun wl hr3 => ?_; refine byEE (hr3) fun ol es hr4 => ?_; (try clear hr3); refine byEAA (hr4) fun ep hol hcl hdl => ?_; (try clear hr4))
  have hla : env.locals ≠ a := by
    rintro q
    rw [q, hoa] at hol; cases hol
    rw [hca] at hcl; exact absurd hcl (by simp)
  have keep : ∀ b o, ¬ Wc b → h.get? b = some o → h'.get? b = some o := fun b o nb e => (hs.2 b fun q => nb (q ▸ wa)).trans e
  have keepK : ∀ b o, ¬ V b → h.get? b = some o → IsData o → ¬ V b ∧ h'.get? b = some o := fun b o nb e _ => ⟨nb, keep b o (fun q => nb (st.sub b q).1) e⟩
  have cell : ∀ c v, CellAt h c v → CellAt h' c v := fun c v hx => by (refine byEAA (hx) fun o h1 h2 h3 => ?_; (try clear hx)); exact ⟨o, (hs.2 c (by rintro rfl; rw [hoa] at h1; cases h1; rw [hca] at h2; exact absurd h2 (by simp))).trans h1, h2, h3⟩
  have fw : ∀ y w, Looks h env y w → Looks h' env y w := fun y w l => by
    rcases l with ⟨e, m, am, bm⟩ | ⟨e, c, am, bm⟩
    · exact .inl ⟨e, m, am.kept fun o eo => .inl ((hs.2 _ hla).trans eo), bm⟩
    · exact .inr ⟨e, c, am, cell c _ bm⟩
  refine ⟨⟨fun b hb => ?_, fun y sl e => ?_⟩, st.sub, ⟨wl, ol, es, ep, (hs.2 _ hla).trans hol, hcl, hdl⟩, ?_, st.apart, fun y a? d v e l => ?_⟩
  · by_cases q : b = a
    · subst q; (refine byEA (ht) fun o' h1 h2 => ?_; (try clear ht)); exact ⟨o', h1, fun q => q.1 (.inl h2)⟩
    · refine byEA (st.r.domP b hb) fun o e n => ?_; exact ⟨o, (hs.2 b q).trans e, n⟩
  · refine byEA (st.r.vars y sl e) fun w l hh => ?_
    refine ⟨w, fw y w l, ?_⟩
    cases sl with
    | sh d' => exact Lay.mono keepK hh
    | own a? d' =>
      (refine byEAAA (hh) fun r e' f g c => ?_; (try clear hh))
      refine byEA (st.nown y a? d' w e l) fun r' e'' nr => ?_
      subst e'; cases e''
      exact ⟨r, rfl, f, g, c.mono keepK fun o eo _ => keep r o nr eo⟩
  · rcases st.tgt with t | ⟨t, c, h1, h2, v, h3⟩
    · exact .inl t
    · exact .inr ⟨t, c, h1, h2, v, cell c v h3⟩
  · refine byEA (st.r.vars y _ e) fun w l' _ => ?_
    exact st.nown y a? d v e ((fw y w l').same l ▸ l')
theorem cstore (O : B.Ok) {A : Around} {s : Shared} {v : Value} {d : D} {Q : Unit → Shared → Prop} {E : Value → Shared → Prop} (eo : EnvOk K env)
    (i : Inv B A s) (st : CStm B V Wc s.heap env x Γ) (hv : Lay B V s.heap d v)
    (hQ : ∀ s', Inv B A s' → (∀ b o, ¬ Wc b → s.heap.get? b = some o → s'.heap.get? b = some o) → (∀ b o, b ≠ env.locals → env.cells.lookup x ≠ some b → s.heap.get? b = some o → s'.heap.get? b = some o) → CStm B V Wc s'.heap env x (put Γ x (.sh d)) → Q () s') : wpAny B.M A (storeName env x v) Q E s := by
  refine byAEEEAAA (st.loc) fun wl ol es ep hol hcl hdl hkl => ?_
  have nsl : s.heap.Ns env.locals (nsFind es) := ⟨ol, es, ep, hol, hdl, hkl, fun _ => rfl⟩
  have main : ∀ (h' : Heap) (tk : Tok) (a : Addr), (a = env.locals ∨ env.cells.lookup x = some a) → Wc a → Heap.SameBut a s.heap h' → (∃ o', h'.get? a = some o' ∧ ¬ IsPriv o') → (∀ o, s.heap.get? a = some o → o.cls ≠ .type "frame") →
      (∃ o es ep, h'.get? env.locals = some o ∧ o.cls = .type "dict" ∧ o.data = .dict es ep ∧ StrKeys es) → Looks h' env x v → (∀ y w, y ≠ x → Looks s.heap env y w → Looks h' env y w) →
      (env.kindOf x = some .local ∨ (env.kindOf x = some .cell ∧ ∃ c, env.cells.lookup x = some c ∧ Wc c ∧ ∃ v, CellAt h' c v)) → Q () { s with heap := h', toks := tk } := by
    intro h' tk a ha wa hs ht hf hloc hl ho htg
    have dm : Dom s.heap h' := fun b o e => by
      by_cases hb : b = a
      · subst hb; exact ht.imp fun _ z => z.1
      · exact ⟨o, (hs.2 b hb).trans e⟩
    have domP' : ∀ b, V b → ∃ o, h'.get? b = some o ∧ ¬ IsPriv o := fun b hb => by
      by_cases q : b = a
      · subst q; exact ht
      · refine byEA (st.r.domP b hb) fun o e n => ?_; exact ⟨o, (hs.2 b q).trans e, n⟩
    have keep : ∀ b o, ¬ Wc b → s.heap.get? b = some o → h'.get? b = some o := fun b o nb e => (hs.2 b fun q => nb (q ▸ wa)).trans e
    have keepK : ∀ b o, ¬ V b → s.heap.get? b = some o → IsData o → ¬ V b ∧ h'.get? b = some o := fun b o nb e _ => ⟨nb, keep b o (fun q => nb (st.sub b q).1) e⟩
    have back : ∀ y w, y ≠ x → (∃ sl', Γ.lookup y = some sl') → Looks h' env y w → Looks s.heap env y w := fun y w hy hx l => by
      (refine byE (hx) fun sl' e => ?_; (try clear hx))
      refine byEA (st.r.vars y sl' e) fun w' l' _ => ?_
      exact (ho y w' hy l').same l ▸ l'
    refine hQ _ ?_ keep (fun b o n1 n2 e => (hs.2 b (by rintro rfl; exact ha.elim n1 n2)).trans e) ⟨⟨fun b hb => domP' b hb, fun y sl e => ?_⟩, st.sub, ⟨wl, hloc⟩, htg, st.apart, fun y a? d' w e l => ?_⟩
    · refine ⟨O.step _ _ i.good fun b o hb e => (hs.2 b (by rintro rfl; exact absurd (st.sub b wa).2 (Nat.not_le.mpr hb))).trans e, i.gens, i.os, ?_⟩
      refine byEA (i.fr) fun l e hl' => ?_
      refine ⟨l, e, fun env' he => ?_⟩
      (refine byA (hl' env' he) fun hk hr5 => ?_; refine byEE (hr5) fun L o hr6 => ?_; (try clear hr5); refine byEEAAA (hr6) fun es ep h1 h2 h3 hr7 => ?_; (try clear hr6); refine byA (hr7) fun h4 h5 => ?_; (try clear hr7))
      exact ⟨hk, L, o, es, ep, h1, h2, (hs.2 L (by rintro rfl; exact hf o h3 h4)).trans h3, h4, h5⟩
    · rw [put_look] at e
      by_cases hy : (y == x) = true
      · rw [if_pos hy] at e; cases e
        rw [beq_iff_eq.mp hy]
        exact ⟨v, hl, Lay.mono keepK hv⟩
      · rw [if_neg hy] at e
        refine byEA (st.r.vars y sl e) fun w l hh => ?_
        refine ⟨w, ho y w (fun q => hy (beq_iff_eq.mpr q)) l, ?_⟩
        cases sl with
        | sh d' => exact Lay.mono keepK hh
        | own a? d' =>
          (refine byEAAA (hh) fun r e' f g c => ?_; (try clear hh))
          refine byEA (st.nown y a? d' w e l) fun r' e'' nr => ?_
          subst e'; cases e''
          exact ⟨r, rfl, f, g, c.mono keepK fun o eo _ => keep r o nr eo⟩
    · rw [put_look] at e
      by_cases hy : (y == x) = true
      · rw [if_pos hy] at e; cases e
      · rw [if_neg hy] at e
        exact st.nown y a? d' w e (back y w (fun q => hy (beq_iff_eq.mpr q)) ⟨_, e⟩ l)
  rcases st.tgt with hk | ⟨hk, c, hc, wc, vc, oc, h1, h2, h3⟩
  · rw [storeName_local hk (by rw [eo.fn]; rfl)]
    refine nsSet_frame hol hdl hkl nsl fun h' hn hs hx => ?_
    (refine byEE (hx) fun o' es' hr8 => ?_; (try clear hx); refine byEAAA (hr8) fun ep' ho' hc' hd' hk' => ?_; (try clear hr8))
    have np : ∀ o, h'.get? env.locals = some o → ¬ IsPriv o := fun o e => by
      rw [ho'] at e; cases e
      exact fun q => q.1 (.inr (.inr (.inl (hc'.trans hcl))))
    refine main h' _ env.locals (.inl rfl) wl hs ⟨_, ho', np _ ho'⟩ (fun o e => by rw [hol] at e; cases e; rw [hcl]; simp) ⟨o', es', ep', ho', hc'.trans hcl, hd', hk'⟩ (.inl ⟨hk, _, ⟨hn, np⟩, by simp⟩) (fun y w hy l => ?_) (.inl hk)
    rcases l with ⟨e, m, am, bm⟩ | ⟨e, c, am, bm⟩
    · refine .inl ⟨e, _, ⟨hn, np⟩, ?_⟩
      show (if y = x then _ else _) = _
      rw [if_neg hy, ← bm]
      exact nsl.agree am.1 y
    · refine .inr ⟨e, c, am, bm.kept fun o eo => .inl ((hs.2 c ?_).trans eo)⟩
      rintro rfl
      (refine byEAA (bm) fun oc h1 h2 _ => ?_; (try clear bm))
      rw [hol] at h1; cases h1
      rw [hcl] at h2; exact absurd h2 (by simp)
  · unfold storeName
    simp only [hk, eo.fn]
    refine wpAny_bind (wpAny_cellOf hc ?_)
    unfold cellSet
    refine wpAny_bind (wpAny_load h1 ?_)
    rw [h3]
    refine wpAny_update h1 ?_
    have g' : (s.heap.update c fun o => { o with data := .cell (some v) }).get? c = some { oc with data := .cell (some v) } := Heap.get?_update_self _ h1 rfl
    have hs : Heap.SameBut c s.heap (s.heap.update c fun o => { o with data := .cell (some v) }) := Heap.SameBut.update ..
    have hnl : env.locals ≠ c := by
      intro q
      rw [q, h1] at hol; cases hol
      rw [h2] at hcl; exact absurd hcl (by simp)
    refine main _ _ c (.inr hc) wc hs ⟨_, g', fun q => q.2.2 h2⟩ (fun o e => by rw [h1] at e; cases e; rw [h2]; simp) ⟨ol, es, ep, (hs.2 _ hnl).trans hol, hcl, hdl, hkl⟩ (.inr ⟨.inl hk, c, hc, _, g', h2, rfl⟩) (fun y w hy l => ?_) (.inr ⟨hk, c, hc, wc, _, _, g', h2, rfl⟩)
    rcases l with ⟨e, m, am, bm⟩ | ⟨e, c', am, bm⟩
    · exact .inl ⟨e, m, am.kept fun o eo => .inl ((hs.2 _ hnl).trans eo), bm⟩
    · have hcc : c' ≠ c := fun q => st.apart c hc hk y hy (q ▸ am)
      exact .inr ⟨e, c', am, bm.kept fun o eo => .inl ((hs.2 _ hcc).trans eo)⟩
structure EvIfs (B : Base) (k : Nat) (K : Kinds) (Γ : G) (ifs : List Expr) (b : Bool) : Prop where
  run : ∀ (A : Around) (env : Env) (V : Addr → Prop) (s : Shared) (Q : Bool → Shared → Prop) (E : Value → Shared → Prop),
  Room k A → EnvOk K env → Inv B A s → EnvR B V s.heap env Γ →
  (∀ s', Inv B A s' → Kp s.heap s'.heap → Q b s') → wpAny B.M A (forIn ifs true fun c r => if r = true then do let ok ← PySem.isTrue c env (eval c env); pure (ForInStep.yield ok) else pure (ForInStep.yield r)) Q E s
theorem EvIfs.nil : EvIfs B k K Γ [] true := .mk fun A env V s Q E rm o i g h => by
  rw [List.forIn_nil]; exact wpAny_pure (h s i (.refl _))
theorem EvIfs.one {c : Expr} {b : Bool} (x : EvT B k K Γ c b) : EvIfs B k K Γ [c] b := .mk fun A env V s Q E rm o i g h => by
  rw [List.forIn_cons, if_pos rfl]
  refine wpAny_bind (wpAny_bind (x.run A env V s _ E rm o i g fun s₁ i₁ k₁ => wpAny_pure ?_))
  show wpAny _ _ (forIn [] b _) Q E s₁
  rw [List.forIn_nil]
  exact wpAny_pure (h s₁ i₁ k₁)
end
inductive CompR (B : Base) (k : Nat) (K : Kinds) (Γc : G) (x : Str) (ifs : List Expr) (elt : Expr) : List D → List D → Prop
  | nil : CompR B k K Γc x ifs elt [] []
  | skip {d ds out} : EvIfs B k K (put Γc x (.sh d)) ifs false → CompR B k K Γc x ifs elt ds out → CompR B k K Γc x ifs elt (d :: ds) out
  | take {d ds v out} : EvIfs B k K (put Γc x (.sh d)) ifs true → Ev B k K (put Γc x (.sh d)) elt v → CompR B k K Γc x ifs elt ds out → CompR B k K Γc x ifs elt (d :: ds) (v :: out)
end Jv
namespace Jv
open PySem PySem.W PySem.Calls PyProof.Rows
theorem put_none {Γ : G} {x : Str} {t : Slot} (h : Γ.lookup x = none) {y : Str} {sl : Slot} (e : Γ.lookup y = some sl) : (put Γ x t).lookup y = some sl := by
  rw [put_look]
  by_cases q : (y == x) = true
  · rw [beq_iff_eq.mp q, h] at e; cases e
  · rw [if_neg q]; exact e
section
variable {B : Base} {k : Nat} {K : Kinds} {Γ Γ' : G} {V Wc : Addr → Prop} {h h' : Heap} {env : Env} {x : Str}
theorem comp_loop (O : B.Ok) {A : Around} {I D₀ : Addr} {fp bp : Addr → Prop} {St : (Addr → Prop) → List D → Heap → Prop} {StO : (Addr → Prop) → List D → Value → Heap → Prop} {px pos : Pos} {iter elt : Expr} {ifs : List Expr} {sc : Scope} {s : Shared} {R : Result → Shared → Prop} {ds out : List D}
    (rm : Room k A) (eo : EnvOk K env) (i : Inv B A s) (it : Iter B A I fp bp false St StO) (st : CStm B V Wc s.heap env x Γ) (hx0 : Γ.lookup x = none) (hst : St V ds s.heap)
    (hacc : s.heap.PlainList D₀ #[]) (wD : Wc D₀) (hDl : D₀ ≠ env.locals) (hDc : env.cells.lookup x ≠ some D₀) (hf : ∀ b, fp b → ¬ Wc b) (hb : ∀ b, bp b → ¬ Wc b)
    (c : CompR B k K Γ x ifs elt ds out) (hz : out.length ≤ sizeLine)
    (hR : ∀ s' ys, Inv B A s' → (∀ b o, s.heap.get? b = some o → ¬ Wc b → ¬ fp b → Kept s'.heap b o) → CStm B V Wc s'.heap env x Γ → s'.heap.PlainList D₀ ys → Lays B V s'.heap out ys.toList → R (.ok .next) s') :
    codeAny B.M A (.compLoop (.ListComp elt [⟨.Name x px, iter, ifs, 0⟩] sc pos) 0 (.ref I) (.ref D₀) env) R s := by
  refine codeAny_compLoop_tests (fun n s' => ∃ ds' dn out' ys, n = ds'.length ∧ Inv B A s' ∧ (∀ b o, s.heap.get? b = some o → ¬ Wc b → ¬ fp b → Kept s'.heap b o) ∧ CStm B V Wc s'.heap env x Γ ∧ St V ds' s'.heap ∧
    CompR B k K Γ x ifs elt ds' out' ∧ dn ++ out' = out ∧ s'.heap.PlainList D₀ ys ∧ Lays B V s'.heap dn ys.toList) ?_ ds.length
    ⟨ds, [], out, #[], rfl, i, fun b o e _ _ => .inl e, st, hst, c, rfl, hacc, by simp [Lays]⟩
  rintro n s' ⟨ds', dn, out', ys, rfl, i', kp', st', hst', c', rfl, hl', ls'⟩
  have kpt : ∀ {h₁ h₂ : Heap}, (∀ b o, s.heap.get? b = some o → ¬ Wc b → ¬ fp b → Kept h₁ b o) → KpOff (fun b => Wc b ∨ fp b) h₁ h₂ → ∀ b o, s.heap.get? b = some o → ¬ Wc b → ¬ fp b → Kept h₂ b o := fun x y b o e nw nf =>
    KpOff.trans (W := fun b => Wc b ∨ fp b) (W' := fun b => Wc b ∨ fp b) (fun b o nb e => x b o e (fun q => nb (.inl q)) fun q => nb (.inr q)) y (fun b o q _ => q) b o (fun q => q.elim nw nf) e
  have turn : ∀ (d : D) (ds₁ : List D) (Q : Option Value → Shared → Prop) (E : Value → Shared → Prop), ds' = d :: ds₁ →
      (∀ v s₂, Inv B A s₂ → (∀ b o, s.heap.get? b = some o → ¬ Wc b → ¬ fp b → Kept s₂.heap b o) → CStm B V Wc s₂.heap env x Γ → St V ds₁ s₂.heap → s₂.heap.PlainList D₀ ys → Lays B V s₂.heap dn ys.toList → Lay B V s₂.heap d v → Q (some v) s₂) →
      wpAny B.M A (pyNext (.ref I)) Q E s' := by
    intro d ds₁ Q E e hQ
    subst e
    refine it.item _ d ds₁ s' _ _ i' st'.r.dom hst' fun v s₂ i₂ so₂ off₂ l₂ => ?_
    have st₂ := it.plain rfl _ _ _ _ so₂
    have dm₂ : Dom s'.heap s₂.heap := dom_off off₂ fun b f => let ⟨o, e, _⟩ := it.there _ _ _ b st₂ f; ⟨o, e⟩
    have kq₂ := kq_off off₂ (fun b f => it.there _ _ _ b hst' f)
    refine hQ v s₂ i₂ (kpt kp' fun b o nb e => .inl (off₂ b o e fun f => nb (.inr f))) (st'.kq kq₂ fun o e => off₂ _ o e fun f => hf _ f st'.loc.1) st₂ ?_ (ls'.kq kq₂) (l₂.mono fun b o nb e _ => ⟨fun q => nb (.inl q), e⟩)
    (refine byE (hl') fun n ho => ?_; (try clear hl'))
    exact ⟨n, off₂ _ _ ho (fun f => hf _ f wD)⟩
  have store : ∀ (d : D) (ds₁ : List D) (v : Value) (s₂ : Shared) (Q : Unit → Shared → Prop) (E : Value → Shared → Prop), Inv B A s₂ → (∀ b o, s.heap.get? b = some o → ¬ Wc b → ¬ fp b → Kept s₂.heap b o) → CStm B V Wc s₂.heap env x Γ → St V ds₁ s₂.heap → s₂.heap.PlainList D₀ ys → Lays B V s₂.heap dn ys.toList → Lay B V s₂.heap d v →
      (∀ s₃, Inv B A s₃ → (∀ b o, s.heap.get? b = some o → ¬ Wc b → ¬ fp b → Kept s₃.heap b o) → CStm B V Wc s₃.heap env x (put Γ x (.sh d)) → St V ds₁ s₃.heap → s₃.heap.PlainList D₀ ys → Lays B V s₃.heap dn ys.toList → Q () s₃) →
      wpAny B.M A (PySem.assign (.Name x px) env v) Q E s₂ := by
    intro d ds₁ v s₂ Q E i₂ kp₂ cs₂ st₂ hl₂ ls₂ l₂ hQ
    refine wpAny_assign_Name (cstore O eo i₂ cs₂ l₂ fun s₃ i₃ wx off₃ cs₃ => ?_)
    have keepK : ∀ b o, ¬ V b → s₂.heap.get? b = some o → IsData o → ¬ V b ∧ s₃.heap.get? b = some o := fun b o nb e _ => ⟨nb, wx b o (fun q => nb (cs₂.sub b q).1) e⟩
    refine hQ s₃ i₃ (kpt kp₂ fun b o nb e => .inl (wx b o (fun q => nb (.inl q)) e)) cs₃ ?_ ?_ (ls₂.mono keepK)
    · refine it.frame _ _ _ _ _ st₂ (fun b q => .inl q) fun b o e q => ?_
      rcases q with q | q | q
      · exact wx b o (hf b q) e
      · exact wx b o (hb b q) e
      · exact wx b o (fun w => q.1 (cs₂.sub b w).1) e
    · (refine byE (hl₂) fun n ho => ?_; (try clear hl₂))
      exact ⟨n, off₃ _ _ hDl hDc ho⟩
  have pure' : ∀ (d : D) (ds₁ : List D) (s₃ s₄ : Shared), Inv B A s₄ → Kp s₃.heap s₄.heap → (∀ b o, s.heap.get? b = some o → ¬ Wc b → ¬ fp b → Kept s₃.heap b o) → CStm B V Wc s₃.heap env x (put Γ x (.sh d)) → St V ds₁ s₃.heap → s₃.heap.PlainList D₀ ys → Lays B V s₃.heap dn ys.toList →
      (∀ b o, s.heap.get? b = some o → ¬ Wc b → ¬ fp b → Kept s₄.heap b o) ∧ CStm B V Wc s₄.heap env x (put Γ x (.sh d)) ∧ St V ds₁ s₄.heap ∧ s₄.heap.PlainList D₀ ys ∧ Lays B V s₄.heap dn ys.toList := by
    intro d ds₁ s₃ s₄ i₄ k₄ kp₃ cs₃ st₃ hl₃ ls₃
    refine ⟨kpt kp₃ (k₄.off _), cs₃.kq k₄.q fun o e => ?_, ?_, ?_, ls₃.kp k₄⟩
    · (refine byA (cs₃.loc) fun _ hr1 => ?_; refine byEE (hr1) fun ol es hr2 => ?_; (try clear hr1); refine byEAA (hr2) fun ep hol hcl _ => ?_; (try clear hr2))
      rw [hol] at e; cases e
      exact (k₄ _ _ hol).exact (by rw [hcl]; simp) (by rw [hcl]; simp)
    · refine it.frame _ _ _ _ _ st₃ (fun b q => .inl q) fun b o e q => ?_
      rcases q with q | q | q
      · refine byEAA (it.there _ _ _ b st₃ q) fun o' e' p cn => ?_
        rw [e] at e'; cases e'
        exact (k₄ b o e).exact p.2.1 cn
      · refine byEA (it.data _ _ _ b st₃ q) fun o' e' p => ?_
        rw [e] at e'; cases e'
        exact p.kept (k₄ b o e)
      · exact q.2.kept (k₄ b o e)
    · (refine byE (hl₃) fun n ho => ?_; (try clear hl₃))
      exact ⟨n, (k₄ _ _ ho).exact (by simp) (by simp)⟩
  have less : ∀ (d : D) (h' : Heap), CStm B V Wc h' env x (put Γ x (.sh d)) → CStm B V Wc h' env x Γ := fun d h' z => z.less fun y sl e => put_none hx0 e
  cases c' with
  | nil =>
    refine it.done _ s' _ _ i' hst' fun s₂ i₂ off => ?_
    have kq := kq_off off (fun b f => it.there _ _ _ b hst' f)
    refine hR s₂ ys i₂ (kpt kp' fun b o nb e => .inl (off b o e fun f => nb (.inr f))) (st'.kq kq fun o e => off _ o e fun f => hf _ f st'.loc.1) ?_ (by simpa using ls'.kq kq)
    (refine byE (hl') fun n ho => ?_; (try clear hl'))
    exact ⟨n, off _ _ ho (fun f => hf _ f wD)⟩
  | @skip d ds₁ _ ei cr =>
    refine turn d ds₁ _ _ rfl fun v s₂ i₂ kp₂ cs₂ st₂ hl₂ ls₂ l₂ => ?_
    refine store d ds₁ v s₂ _ _ i₂ kp₂ cs₂ st₂ hl₂ ls₂ l₂ fun s₃ i₃ kp₃ cs₃ st₃ hl₃ ls₃ => ?_
    refine ei.run A env V s₃ _ _ rm eo i₃ cs₃.r fun s₄ i₄ k₄ => ?_
    rw [if_neg (by simp)]
    refine byAAAA (pure' d ds₁ s₃ s₄ i₄ k₄ kp₃ cs₃ st₃ hl₃ ls₃) fun kp₄ cs₄ st₄ hl₄ ls₄ => ?_
    exact ⟨_, Nat.lt_succ_self _, ds₁, dn, out', ys, rfl, i₄, kp₄, less d _ cs₄, st₄, cr, rfl, hl₄, ls₄⟩
  | @take d ds₁ vd out₁ ei ee cr =>
    refine turn d ds₁ _ _ rfl fun v s₂ i₂ kp₂ cs₂ st₂ hl₂ ls₂ l₂ => ?_
    refine store d ds₁ v s₂ _ _ i₂ kp₂ cs₂ st₂ hl₂ ls₂ l₂ fun s₃ i₃ kp₃ cs₃ st₃ hl₃ ls₃ => ?_
    refine ei.run A env V s₃ _ _ rm eo i₃ cs₃.r fun s₄ i₄ k₄ => ?_
    rw [if_pos rfl]
    refine byAAAA (pure' d ds₁ s₃ s₄ i₄ k₄ kp₃ cs₃ st₃ hl₃ ls₃) fun kp₄ cs₄ st₄ hl₄ ls₄ => ?_
    refine ee.run A env V s₄ _ _ rm eo i₄ cs₄.r fun vv s₅ i₅ k₅ l₅ => ?_
    refine byAAAA (pure' d ds₁ s₄ s₅ i₅ k₅ kp₄ cs₄ st₄ hl₄ ls₄) fun kp₅ cs₅ st₅ hl₅ ls₅ => ?_
    have hys : ys.size ≤ sizeLine := by
      have h1 := ls₅.length
      have h2 : ys.toList.length = ys.size := by simp
      simp at hz
      omega
    refine wpAny_list_append_plain (prog := B.prog) (w := B.w) hl₅ (fun h' hl' hs' => ?_) hys
    refine byEAA (hl₅.isList) fun oD hoD hcD _ => ?_
    refine byEAA (hl'.isList) fun oD' hoD' hcD' _ => ?_
    have u6 : Inv B A { s₅ with heap := h' } := by
      refine ⟨O.step _ _ i₅.good fun b o hb' e => (hs'.2 b (by rintro rfl; exact absurd (cs₅.sub b wD).2 (Nat.not_le.mpr hb'))).trans e, i₅.gens, i₅.os, ?_⟩
      refine byEA (i₅.fr) fun l e hl'' => ?_
      refine ⟨l, e, fun env' he => ?_⟩
      (refine byA (hl'' env' he) fun hk hr3 => ?_; refine byEE (hr3) fun L o hr4 => ?_; (try clear hr3); refine byEEAAA (hr4) fun es ep h1 h2 h3 hr5 => ?_; (try clear hr4); refine byA (hr5) fun h4 h5 => ?_; (try clear hr5))
      exact ⟨hk, L, o, es, ep, h1, h2, (hs'.2 L (by rintro rfl; rw [hoD] at h3; cases h3; rw [hcD] at h4; exact absurd h4 (by simp))).trans h3, h4, h5⟩
    have keepK : ∀ b o, ¬ V b → s₅.heap.get? b = some o → IsData o → ¬ V b ∧ h'.get? b = some o := fun b o nb e _ => ⟨nb, (hs'.2 b fun q => nb (q ▸ (cs₅.sub _ wD).1)).trans e⟩
    refine ⟨_, Nat.lt_succ_self _, ds₁, dn ++ [vd], out₁, ys.push vv, rfl, u6, kpt kp₅ (fun b o nb e => .inl ((hs'.2 b fun q => nb (.inl (q ▸ wD))).trans e)), less d _ (cs₅.app hs' wD ⟨oD, hoD, hcD⟩ ⟨_, hoD', hcD'⟩), ?_, cr, by simp, hl', ?_⟩
    · refine it.frame _ _ _ _ _ st₅ (fun b q => .inl q) fun b o e q => ?_
      have nD : b ≠ D₀ := by
        rintro rfl
        rcases q with q | q | q
        · exact hf b q wD
        · exact hb b q wD
        · exact q.1 (cs₅.sub b wD).1
      exact (hs'.2 b nD).trans e
    · rw [Array.toList_push]
      exact (ls₅.mono keepK).append (Lays.one (l₅.mono keepK))
end
end Jv
namespace Jv
open PySem PySem.W PySem.Calls PyProof.Rows
noncomputable def closL (f : Str → Addr) : List (Str × NameKind) → List (Str × Addr) → List (Str × Addr)
  | [], acc => acc
  | (n, k) :: r, acc => if k == .free then closL f r ((n, f n) :: acc) else closL f r acc
noncomputable def cellAdr (env : Env) (n : Str) : Addr := (env.cells.lookup n).getD 0
theorem cellOf_eq {env : Env} {n : Str} (h : (env.cells.lookup n).isSome = true) : cellOf env n = pure (cellAdr env n) := by
  refine byE (Option.isSome_iff_exists.mp h) fun c e => ?_
  unfold cellOf cellAdr
  rw [e]; rfl
theorem closureFor_eq {scope : Scope} {env : Env} (h : ∀ p ∈ scope.names, p.2 = .free → (env.cells.lookup p.1).isSome = true) : closureFor scope env = pure (closL (cellAdr env) scope.names []) := by
  have key : ∀ (names : List (Str × NameKind)) (acc : List (Str × Addr)), (∀ p ∈ names, p.2 = .free → (env.cells.lookup p.1).isSome = true) →
      (forIn names acc fun (x : Str × NameKind) (cs : List (Str × Addr)) => (if x.2 == .free then do let a ← cellOf env x.1; pure (ForInStep.yield ((x.1, a) :: cs)) else pure (ForInStep.yield cs) : Sem (ForInStep (List (Str × Addr))))) = pure (closL (cellAdr env) names acc) := by
    intro names
    induction names with
    | nil => intro acc _; rfl
    | cons p r ih =>
      intro acc hp
      obtain ⟨n, k⟩ := p
      have hr := fun q hq => hp q (List.mem_cons_of_mem _ hq)
      rw [List.forIn_cons]
      unfold closL
      by_cases hk : (k == NameKind.free) = true
      · rw [if_pos hk]
        simp only [hk, if_true]
        rw [cellOf_eq (hp (n, k) List.mem_cons_self (beq_iff_eq.mp hk))]
        exact ih _ hr
      · rw [if_neg hk]
        simp only [hk]
        exact ih _ hr
  have := key scope.names [] h
  unfold closureFor
  first
    | exact this
    | (simp only [bind_pure]; exact this)
    | (rw [← this]; rfl)
theorem closL_look (f : Str → Addr) : ∀ (names : List (Str × NameKind)) (acc : List (Str × Addr)) (y : Str) (c : Addr), (closL f names acc).lookup y = some c → ((y, NameKind.free) ∈ names ∧ c = f y) ∨ acc.lookup y = some c
  | [], acc, y, c, h => .inr h
  | (n, k) :: r, acc, y, c, h => by
    unfold closL at h
    by_cases hk : (k == NameKind.free) = true
    · rw [if_pos hk] at h
      rcases closL_look f r _ y c h with q | q
      · exact .inl ⟨List.mem_cons_of_mem _ q.1, q.2⟩
      · rw [List.lookup_cons] at q
        cases hy : y == n with
        | true =>
          rw [hy] at q; cases q
          obtain rfl := beq_iff_eq.mp hy
          obtain rfl := beq_iff_eq.mp hk
          exact .inl ⟨List.mem_cons_self, rfl⟩
        | false => rw [hy] at q; exact .inr q
    · rw [if_neg hk] at h
      rcases closL_look f r _ y c h with q | q
      · exact .inl ⟨List.mem_cons_of_mem _ q.1, q.2⟩
      · exact .inr q
theorem closL_keep (f : Str → Addr) : ∀ (names : List (Str × NameKind)) (acc : List (Str × Addr)) (y : Str), acc.lookup y = some (f y) → (closL f names acc).lookup y = some (f y)
  | [], acc, y, h => h
  | (n, k) :: r, acc, y, h => by
    unfold closL
    by_cases hk : (k == NameKind.free) = true
    · rw [if_pos hk]
      refine closL_keep f r _ y ?_
      rw [List.lookup_cons]
      cases hy : y == n with
      | true => rw [beq_iff_eq.mp hy]
      | false => exact h
    · rw [if_neg hk]; exact closL_keep f r _ y h
theorem closL_free (f : Str → Addr) : ∀ (names : List (Str × NameKind)) (acc : List (Str × Addr)) (y : Str), names.lookup y = some .free → (closL f names acc).lookup y = some (f y)
  | (n, k) :: r, acc, y, h => by
    rw [List.lookup_cons] at h
    unfold closL
    cases hy : y == n with
    | true =>
      rw [hy] at h; cases h
      rw [if_pos (by rfl)]
      refine closL_keep f r _ y ?_
      rw [List.lookup_cons, hy, beq_iff_eq.mp hy]
    | false =>
      rw [hy] at h
      split
      · exact closL_free f r _ y h
      · exact closL_free f r _ y h
theorem relK_look (K : Kinds) (sc : Scope) (y : Str) : relK K sc y = (sc.names.lookup y).map fun k => if (k == .free && K y == some .cell) then .cell else k := by
  unfold relK
  generalize sc.names = names
  induction names with
  | nil => rfl
  | cons p r ih =>
    obtain ⟨n, k⟩ := p
    rw [List.map_cons]
    show List.lookup y ((if (k == .free && K n == some .cell) = true then (n, NameKind.cell) else (n, k)) :: _) = _
    rw [show (if (k == .free && K n == some .cell) = true then (n, NameKind.cell) else (n, k)) = (n, if (k == .free && K n == some .cell) = true then .cell else k) from by split <;> rfl, List.lookup_cons, List.lookup_cons]
    cases hy : y == n with
    | true => rw [beq_iff_eq.mp hy]; rfl
    | false => exact ih
noncomputable def cap (Γ : G) : List (Str × NameKind) → G
  | [] => []
  | (n, k) :: r => if k == .free then (match Γ.lookup n with | some sl => (n, sl) :: cap Γ r | none => cap Γ r) else cap Γ r
theorem cap_look (Γ : G) : ∀ (names : List (Str × NameKind)) (y : Str) (sl : Slot), (cap Γ names).lookup y = some sl → Γ.lookup y = some sl ∧ (y, NameKind.free) ∈ names
  | [], y, sl, h => by cases h
  | (n, k) :: r, y, sl, h => by
    unfold cap at h
    by_cases hk : (k == NameKind.free) = true
    · rw [if_pos hk] at h
      obtain rfl := beq_iff_eq.mp hk
      cases hg : Γ.lookup n with
      | none => rw [hg] at h; have := cap_look Γ r y sl h; exact ⟨this.1, List.mem_cons_of_mem _ this.2⟩
      | some sl' =>
        rw [hg] at h
        dsimp only at h
        rw [List.lookup_cons] at h
        cases hy : y == n with
        | true =>
          rw [hy] at h; cases h
          rw [beq_iff_eq.mp hy]
          exact ⟨hg, List.mem_cons_self⟩
        | false =>
          rw [hy] at h
          have := cap_look Γ r y sl h; exact ⟨this.1, List.mem_cons_of_mem _ this.2⟩
    · rw [if_neg hk] at h
      have := cap_look Γ r y sl h; exact ⟨this.1, List.mem_cons_of_mem _ this.2⟩
structure ScOk (K : Kinds) (Γ : G) (sc : Scope) (x : Str) (cx : Bool) : Prop where
  kind : sc.kind = .function
  locs : ∀ p ∈ sc.names, p.2 = .local → sc.names.lookup p.1 = some .local
  frees : ∀ p ∈ sc.names, p.2 = .free → sc.names.lookup p.1 = some .free ∧ (Γ.lookup p.1).isSome = true ∧ (K p.1 = some .cell ∨ K p.1 = some .free)
  tgt : sc.names.lookup x = some (if cx then .cell else .local)
  cells : ∀ n acc, cellsFrom n sc.names acc = if cx then (x, n) :: acc else acc
  push : ∀ h, pushCells h sc.names = if cx then h.push { cls := .type "cell", data := .cell none } else h
section
variable {B : Base} {k : Nat} {K : Kinds} {Γ Γ' : G} {V Wc : Addr → Prop} {h h' : Heap} {env : Env} {x : Str}
noncomputable def compEnv (sc : Scope) (env : Env) (C : Addr) (cells : List (Str × Addr)) : Env :=
  { scope := sc, locals := C, globals := env.globals, cells := cells, qual := env.qual, func := none, code := env.code, frame := env.frame, builtins := env.builtins }
theorem comp_frame (O : B.Ok) {A : Around} {sc : Scope} {cx : Bool} {s : Shared} {h₂ : Heap} {D₀ : Addr} {Q : Env → Shared → Prop} {E : Value → Shared → Prop} (sk : ScOk K Γ sc x cx) (eo : EnvOk K env) (g : EnvR B V h₂ env Γ) (i : Inv B A s)
    (kp : ∀ b o, h₂.get? b = some o → s.heap.get? b = some o) (nD : h₂.get? D₀ = none) (hD : ∃ o, s.heap.get? D₀ = some o ∧ IsData o) (lo : B.n₀ ≤ D₀)
    (hQ : ∀ C cells s' Wc, Inv B A s' → (∀ b o, s.heap.get? b = some o → s'.heap.get? b = some o) → EnvOk (relK K sc) { compEnv sc env C cells with scope := relabel sc env } → (∀ b, Wc b → h₂.get? b = none) → Wc D₀ → D₀ ≠ C → cells.lookup x ≠ some D₀ →
      (∀ b, Wc b → ∃ o, s'.heap.get? b = some o) → (∀ b, Wc b → b ≠ D₀ → s.heap.get? b = none) → Wc C →
      CStm B (fun b => V b ∨ Wc b) Wc s'.heap { compEnv sc env C cells with scope := relabel sc env } x (cap Γ sc.names) → Q (compEnv sc env C cells) s') :
    wpAny B.M A (newFunctionEnv sc env.globals (closL (cellAdr env) sc.names []) [] env.qual none .none (some env)) Q E s := by
  have hsz : B.n₀ ≤ s.heap.objs.size := O.size _ i.good
  have hD0 : D₀ < s.heap.objs.size := by (refine byEA (hD) fun o ho _ => ?_; (try clear hD)); exact Heap.lt_size ho
  simp only [newFunctionEnv, Option.isSome_some, if_true]
  refine wpAny_bind (wpAny_alloc ?_)
  refine wpAny_bind (wpAny_layCells _ (fun name kind cells => by cases hkc : kind == NameKind.cell <;> simp [hkc]) _ _ _ _ ?_)
  rw [List.forIn_nil]
  refine wpAny_bind (wpAny_pure ?_)
  rw [show ({ s with heap := s.heap.push { cls := .type "dict", data := .dict #[] } } : Shared).heap.objs.size = s.heap.objs.size + 1 from Heap.size_push .., sk.cells, sk.push]
  show wpAny _ _ (pure _) _ _ _
  have k1 : ∀ b o, s.heap.get? b = some o → (s.heap.push { cls := .type "dict", data := .dict #[] }).get? b = some o := fun b o e => Heap.get?_push_of_some _ e
  have hC : (s.heap.push { cls := .type "dict", data := .dict #[] }).get? s.heap.objs.size = some { cls := .type "dict", data := .dict #[] } := Heap.get?_push_size _ rfl
  obtain ⟨h₄, hh₄⟩ : ∃ h₄, h₄ = (if cx = true then (s.heap.push { cls := .type "dict", data := .dict #[] }).push { cls := .type "cell", data := .cell none } else s.heap.push { cls := .type "dict", data := .dict #[] }) := ⟨_, rfl⟩
  have k2 : ∀ b o, (s.heap.push { cls := .type "dict", data := .dict #[] }).get? b = some o → h₄.get? b = some o := fun b o e => by
    subst hh₄
    cases cx
    · exact e
    · exact Heap.get?_push_of_some _ e
  have hcell : cx = true → CellAt h₄ (s.heap.objs.size + 1) none := fun q => by
    subst q; subst hh₄
    refine ⟨{ cls := .type "cell", data := .cell none }, ?_, rfl, rfl⟩
    have := Heap.get?_push_size (s.heap.push { cls := .type "dict", data := .dict #[] }) (o := { cls := .type "cell", data := .cell none }) rfl
    rw [Heap.size_push] at this
    exact this
  rw [← hh₄]
  have kk : ∀ b o, h₂.get? b = some o → h₄.get? b = some o := fun b o e => k2 b o (k1 b o (kp b o e))
  have nC : h₂.get? s.heap.objs.size = none := by
    cases e : h₂.get? s.heap.objs.size with
    | none => rfl
    | some o => exact absurd (Heap.lt_size (kp _ _ e)) (Nat.lt_irrefl _)
  have nC' : h₂.get? (s.heap.objs.size + 1) = none := by
    cases e : h₂.get? (s.heap.objs.size + 1) with
    | none => rfl
    | some o => exact absurd (Heap.lt_size (kp _ _ e)) (Nat.not_lt.mpr (Nat.le_succ _))
  refine wpAny_pure (hQ s.heap.objs.size (if cx = true then (x, s.heap.objs.size + 1) :: closL (cellAdr env) sc.names [] else closL (cellAdr env) sc.names []) _ (fun b => b = D₀ ∨ b = s.heap.objs.size ∨ (cx = true ∧ b = s.heap.objs.size + 1)) (i.keep O (tk := s.toks) fun b o e => k2 b o (k1 b o e)) (fun b o e => k2 b o (k1 b o e)) ⟨sk.kind, eo.glob, eo.blt, relabel_ok eo⟩ ?_ (.inl rfl) (Nat.ne_of_lt hD0) ?_ ?_ ?_ (.inr (.inl rfl)) ?_)
  · rintro b (rfl | rfl | ⟨_, rfl⟩)
    · exact nD
    · exact nC
    · exact nC'
  · -- the cell of x is no list
    intro q
    have look0 : ∀ c, (closL (cellAdr env) sc.names []).lookup x = some c → False := fun c e => by
      rcases closL_look _ _ _ _ _ e with ⟨m, _⟩ | m
      · have := (sk.frees _ m rfl).1
        rw [sk.tgt] at this
        cases cx <;> cases this
      · cases m
    cases cx with
    | false => exact look0 _ q
    | true =>
      simp only [if_true, List.lookup_cons, beq_self_eq_true] at q
      injection q with q
      exact absurd hD0 (by rw [← q]; exact Nat.not_lt.mpr (Nat.le_succ _))
  · rintro b (rfl | rfl | ⟨q, rfl⟩)
    · (refine byEA (hD) fun o ho _ => ?_; (try clear hD)); exact ⟨_, k2 _ _ (k1 _ _ ho)⟩
    · exact ⟨_, k2 _ _ hC⟩
    · refine byEA (hcell q) fun o ho _ => ?_; exact ⟨o, ho⟩
  · rintro b (rfl | rfl | ⟨q, rfl⟩) hb
    · exact absurd rfl hb
    · exact none_size (Nat.le_refl _)
    · exact none_size (Nat.le_succ _)
  · -- the state
    have look0 : ∀ c, (closL (cellAdr env) sc.names []).lookup x = some c → False := fun c e => by
      rcases closL_look _ _ _ _ _ e with ⟨m, _⟩ | m
      · have := (sk.frees _ m rfl).1
        rw [sk.tgt] at this
        cases cx <;> cases this
      · cases m
    have keepK : ∀ b o, ¬ V b → h₂.get? b = some o → IsData o → ¬ (V b ∨ (b = D₀ ∨ b = s.heap.objs.size ∨ (cx = true ∧ b = s.heap.objs.size + 1))) ∧ h₄.get? b = some o := fun b o nb e _ =>
      ⟨fun q => (by
        rcases q with q | q | q | ⟨_, q⟩
        · exact nb q
        · rw [q, nD] at e; cases e
        · rw [q, nC] at e; cases e
        · rw [q, nC'] at e; cases e), kk b o e⟩
    have cap' : ∀ y sl, (cap Γ sc.names).lookup y = some sl → Γ.lookup y = some sl ∧ sc.names.lookup y = some .free ∧ y ≠ x ∧ ∃ c v, env.cells.lookup y = some c ∧ CellAt h₂ c (some v) ∧ Looks h₂ env y v ∧ Holds B V h₂ sl v := by
      intro y sl e
      refine byA (cap_look _ _ _ _ e) fun e1 m => ?_
      refine byAA (sk.frees _ m rfl) fun f1 _ f3 => ?_
      refine byEA (g.vars y sl e1) fun v l hh => ?_
      refine ⟨e1, f1, ?_, ?_⟩
      · rintro rfl
        rw [sk.tgt] at f1
        cases cx <;> cases f1
      · rcases id l with ⟨q, _⟩ | ⟨_, c, q, r⟩
        · rw [eo.kind] at q; rcases f3 with h3 | h3 <;> (rw [q] at h3; cases h3)
        · exact ⟨c, v, q, r, l, hh⟩
    have looks : ∀ y sl v, (cap Γ sc.names).lookup y = some sl → Looks h₂ env y v → Looks h₄ { compEnv sc env s.heap.objs.size (if cx = true then (x, s.heap.objs.size + 1) :: closL (cellAdr env) sc.names [] else closL (cellAdr env) sc.names []) with scope := relabel sc env } y v := by
      intro y sl v e l
      (refine byAAA (cap' y sl e) fun e1 f1 hy hr1 => ?_; refine byEEAAA (hr1) fun c v' hc cc l' _ => ?_; (try clear hr1))
      obtain rfl := l.same l'
      refine .inr ⟨?_, c, ?_, cc.kept fun o e => .inl (kk _ _ e)⟩
      · have : (relabel sc env).names.lookup y = relK K sc y := relabel_ok eo y
        show (relabel sc env).names.lookup y = _ ∨ (relabel sc env).names.lookup y = _
        rw [this, relK_look, f1]
        by_cases q : (NameKind.free == NameKind.free && K y == some NameKind.cell) = true
        · left; simp only [Option.map_some, q, if_true]
        · right; simp only [Option.map_some, q]; rfl
      · have z : (closL (cellAdr env) sc.names []).lookup y = some c := by
          rw [closL_free _ _ _ _ f1]; unfold cellAdr; rw [hc]; rfl
        show List.lookup y (if cx = true then _ else _) = some c
        cases cx with
        | false => exact z
        | true =>
          simp only [if_true, List.lookup_cons]
          rw [beq_eq_false_iff_ne.mpr hy]; exact z
    have back : ∀ y sl v, (cap Γ sc.names).lookup y = some sl → Looks h₄ { compEnv sc env s.heap.objs.size (if cx = true then (x, s.heap.objs.size + 1) :: closL (cellAdr env) sc.names [] else closL (cellAdr env) sc.names []) with scope := relabel sc env } y v → Looks h₂ env y v := by
      intro y sl v e l
      (refine byAAA (cap' y sl e) fun _ _ _ hr2 => ?_; refine byEEAAA (hr2) fun c v' _ _ l' _ => ?_; (try clear hr2))
      exact (looks y sl v' e l').same l ▸ l'
    refine ⟨⟨fun b hb => ?_, fun y sl e => ?_⟩, fun b q => ⟨.inr q, ?_⟩, ⟨.inr (.inl rfl), _, _, _, k2 _ _ hC, rfl, rfl, fun e he => by simp at he⟩, ?_, fun c hc hk y hy q => ?_, fun y a? d v e l => ?_⟩
    · rcases hb with hb | rfl | rfl | ⟨q, rfl⟩
      · refine byEA (g.domP b hb) fun o e n => ?_; exact ⟨o, kk b o e, n⟩
      · (refine byEA (hD) fun o ho hi => ?_; (try clear hD)); exact ⟨_, k2 _ _ (k1 _ _ ho), fun q => q.1 hi⟩
      · exact ⟨_, k2 _ _ hC, fun q => q.1 (.inr (.inr (.inl rfl)))⟩
      · refine byEAA (hcell q) fun o ho hc _ => ?_; exact ⟨o, ho, fun q => q.2.2 hc⟩
    · (refine byAAA (cap' y sl e) fun e1 f1 hy hr3 => ?_; refine byEEAAA (hr3) fun c v hc cc l hh => ?_; (try clear hr3))
      refine ⟨v, looks y sl v e l, ?_⟩
      cases sl with
      | sh d => exact Lay.mono keepK hh
      | own a? d =>
        (refine byEAAA (hh) fun r e' f g' ct => ?_; (try clear hh))
        exact ⟨r, e', f, .inl g', ct.mono keepK fun o eo _ => kk r o eo⟩
    · rcases q with rfl | rfl | ⟨_, rfl⟩
      · exact lo
      · exact hsz
      · exact Nat.le_succ_of_le hsz
    · have hk : (relabel sc env).names.lookup x = relK K sc x := relabel_ok eo x
      show (relabel sc env).names.lookup x = _ ∨ ((relabel sc env).names.lookup x = _ ∧ _)
      rw [hk, relK_look, sk.tgt]
      cases cx with
      | false => left; rfl
      | true =>
        right
        refine ⟨rfl, s.heap.objs.size + 1, ?_, .inr (.inr ⟨rfl, rfl⟩), none, hcell rfl⟩
        show List.lookup x ((x, s.heap.objs.size + 1) :: _) = _
        simp only [List.lookup_cons, beq_self_eq_true]
    · have hc' : List.lookup x (if cx = true then (x, s.heap.objs.size + 1) :: closL (cellAdr env) sc.names [] else closL (cellAdr env) sc.names []) = some c := hc
      have q' : List.lookup y (if cx = true then (x, s.heap.objs.size + 1) :: closL (cellAdr env) sc.names [] else closL (cellAdr env) sc.names []) = some c := q
      cases cx with
      | false => exact look0 _ hc'
      | true =>
        simp only [if_true, List.lookup_cons, beq_self_eq_true] at hc'
        injection hc' with hc'
        simp only [if_true, List.lookup_cons, beq_eq_false_iff_ne.mpr hy] at q'
        rcases closL_look _ _ _ _ _ q' with ⟨m, e⟩ | m
        · refine byAA (sk.frees _ m rfl) fun f1 f2 f3 => ?_
          refine byE (Option.isSome_iff_exists.mp f2) fun sl es => ?_
          refine byEA (g.vars _ _ es) fun v l _ => ?_
          rcases l with ⟨q, _⟩ | ⟨_, c', q, r⟩
          · rw [eo.kind] at q; rcases f3 with h3 | h3 <;> (rw [q] at h3; cases h3)
          · have : cellAdr env y = c' := by unfold cellAdr; rw [q]; rfl
            (refine byEA (r) fun o ho _ => ?_; (try clear r))
            rw [← this, ← e, ← hc', nC'] at ho; cases ho
        · cases m
    · refine byA (cap' y _ e) fun e1 _ => ?_
      have l' := back y _ v e l
      refine byEAEAAA (g.vars y _ e1) fun v' l'' r e' f gv ct => ?_
      obtain rfl := l''.same l'
      refine ⟨r, e', ?_⟩
      refine byEA (ct.there) fun o ho _ => ?_
      rintro (rfl | rfl | ⟨_, rfl⟩)
      · rw [nD] at ho; cases ho
      · rw [nC] at ho; cases ho
      · rw [nC'] at ho; cases ho
end
end Jv
namespace Jv
open PySem PySem.W PySem.Calls PyProof.Rows
section
variable {B : Base} {k : Nat} {K : Kinds} {Γ Γ' : G} {V Wc : Addr → Prop} {h h' : Heap} {env : Env} {x : Str}
theorem cap_none {sc : Scope} {cx : Bool} (sk : ScOk K Γ sc x cx) : (cap Γ sc.names).lookup x = none := by
  cases e : (cap Γ sc.names).lookup x with
  | none => rfl
  | some sl =>
    have := (sk.frees _ (cap_look _ _ _ _ e).2 rfl).1
    rw [sk.tgt] at this
    cases cx <;> cases this
theorem Frames.sameBut {A : Around} {a : Addr} (f : Frames B A h) (hs : Heap.SameBut a h h') (ho : ∀ o, h.get? a = some o → o.cls ≠ .type "frame") : Frames B A h' := by
  (refine byEA (f) fun l e hl => ?_; (try clear f))
  refine ⟨l, e, fun env' he => ?_⟩
  (refine byA (hl env' he) fun hk hr1 => ?_; refine byEE (hr1) fun L o hr2 => ?_; (try clear hr1); refine byEEAAA (hr2) fun es ep h1 h2 h3 hr3 => ?_; (try clear hr2); refine byA (hr3) fun h4 h5 => ?_; (try clear hr3))
  exact ⟨hk, L, o, es, ep, h1, h2, (hs.2 L (by rintro rfl; exact ho o h3 h4)).trans h3, h4, h5⟩
theorem Inv.sameBut (O : B.Ok) {A : Around} {s : Shared} {a : Addr} {tk : Nat} (i : Inv B A s) (hs : Heap.SameBut a s.heap h') (lo : B.n₀ ≤ a) (ho : ∀ o, s.heap.get? a = some o → o.cls ≠ .type "frame") : Inv B A { s with heap := h', toks := tk } :=
  ⟨O.step _ _ i.good fun b o hb e => (hs.2 b (by rintro rfl; exact absurd lo (Nat.not_le.mpr hb))).trans e, i.gens, i.os, i.fr.sameBut hs ho⟩
theorem Kept.same {b : Addr} {o : Obj} (k : Kept h b o) (e : h'.get? b = h.get? b) : Kept h' b o := by
  rcases k with k | ⟨c, sl, k⟩ | ⟨c, o', k⟩
  · exact .inl (e.trans k)
  · exact .inr (.inl ⟨c, sl, e.trans k⟩)
  · exact .inr (.inr ⟨c, o', e.trans k⟩)
theorem Kp.but {h₁ h₂ h₃ : Heap} {a : Addr} (k : Kp h₁ h₂) (hs : Heap.SameBut a h₂ h₃) (n : h₁.get? a = none) : Kp h₁ h₃ := fun b o e =>
  (k b o e).same (hs.2 b (by rintro rfl; rw [n] at e; cases e))
theorem comp_core (O : B.Ok) {px pos : Pos} {iter elt : Expr} {ifs : List Expr} {sc : Scope} {ds out : List D} {cx : Bool} {use : Option (Value → Sem Unit)} {A : Around} {s : Shared} {Q : Value → Shared → Prop} {E : Value → Shared → Prop}
    (xi : EvIB B k K Γ iter ds) (sk : ScOk K Γ sc x cx) (c : CompR B k (relK K sc) (cap Γ sc.names) x ifs elt ds out) (hz : out.length ≤ sizeLine) (hs : ∀ env v, foldedSetIterable iter env v = pure v)
    (rm : Room k A) (eo : EnvOk K env) (i : Inv B A s) (g : EnvR B V s.heap env Γ)
    (hP : ∀ D₀ C s', Inv B A s' → Kp s.heap s'.heap → s.heap.get? D₀ = none → s.heap.get? C = none → C ≠ D₀ → B.n₀ ≤ D₀ → B.n₀ ≤ C → (∃ o es ep, s'.heap.get? C = some o ∧ o.cls = .type "dict" ∧ o.data = .dict es ep ∧ StrKeys es) →
      Content B (fun b => V b ∨ b = D₀ ∨ b = C) s'.heap (.list out) D₀ → compPost B.M A E use Q (.ref D₀) C (.ok .next) s') :
    wpAny B.M A (comprehension (.ListComp elt [⟨.Name x px, iter, ifs, 0⟩] sc pos) sc env (firstIterPos [⟨.Name x px, iter, ifs, 0⟩] pos) (newList []) false (eval iter env) use) Q E s := by
  have hcl : closureFor sc env = pure (closL (cellAdr env) sc.names []) := closureFor_eq fun p hp hf => by
    refine byAA (sk.frees p hp hf) fun _ h2 h3 => ?_
    refine byE (Option.isSome_iff_exists.mp h2) fun sl e => ?_
    refine byEA (g.vars _ _ e) fun v l _ => ?_
    rcases l with ⟨q, _⟩ | ⟨_, c, q, _⟩
    · rw [eo.kind] at q; rcases h3 with h3 | h3 <;> (rw [q] at h3; cases h3)
    · rw [q]; rfl
  refine wpAny_comprehension_free rfl (hs env) hcl sk.kind sk.locs (xi.run A env V s _ E rm eo i g fun I fp bp St StO s₂ i₂ k₂ it st₂ nf => ?_)
  refine wpAny_newList ?_
  have kD : ∀ b o, s₂.heap.get? b = some o → (s₂.heap.push { cls := .type "list", data := .seq (List.toArray []) }).get? b = some o := fun b o e => Heap.get?_push_of_some _ e
  refine comp_frame O sk eo (g.kp k₂) (s := { s₂ with heap := s₂.heap.push { cls := .type "list", data := .seq (List.toArray []) } }) (i₂.keep O (tk := s₂.toks) kD) kD (none_size (Nat.le_refl _)) ⟨_, Heap.get?_push_size _ rfl, .inl rfl⟩ (O.size _ i₂.good)
    fun C cells s₄ Wc i₄ k₄ eo₄ wn wD hDC hcD wt wn' wC cs => ?_
  have kk : ∀ b o, s₂.heap.get? b = some o → s₄.heap.get? b = some o := fun b o e => k₄ b o (kD b o e)
  have nz : ∀ b, s₂.heap.get? b = none → s.heap.get? b = none := fun b e => by
    cases q : s.heap.get? b with
    | none => rfl
    | some o => refine byE ((k₂ b o q).ex) fun o' e' => ?_; rw [e] at e'; cases e'
  have st₄ : St (fun b => V b ∨ Wc b) ds s₄.heap := it.frame _ _ _ _ _ st₂ (fun b q => q.imp id fun w => wn b w) fun b o e _ => kk b o e
  have fpw : ∀ b, fp b → ¬ Wc b := fun b f w => by
    refine byEA (it.there _ _ _ b st₂ f) fun o e _ => ?_
    rw [wn b w] at e; cases e
  have bpw : ∀ b, bp b → ¬ Wc b := fun b f w => by
    refine byEA (it.data _ _ _ b st₂ f) fun o e _ => ?_
    rw [wn b w] at e; cases e
  have hD : s₄.heap.PlainList s₂.heap.objs.size #[] := ⟨_, k₄ _ _ (Heap.get?_push_size _ rfl)⟩
  have loop := comp_loop (px := px) (pos := pos) (iter := iter) (sc := sc) (R := compPost B.M A E use Q (.ref s₂.heap.objs.size) C) O rm eo₄ i₄ it cs (cap_none sk) st₄ hD wD hDC hcD fpw bpw c hz fun s' ys i' kp' cs' hl' ls' => by
    refine hP s₂.heap.objs.size C s' i' (fun b o e => ?_) (nz _ (none_size (Nat.le_refl _))) (nz _ (wn _ wC)) (Ne.symm hDC) (O.size _ i₂.good) (cs'.sub _ wC).2 cs'.loc.2 ⟨ys, hl', ls'.mono fun b o nb e _ => ⟨fun q => ?_, e⟩⟩
    · have h1 : ∀ b o, s₂.heap.get? b = some o → Kept s'.heap b o ∨ fp b := fun b o e => by
        by_cases f : fp b
        · exact .inr f
        · exact .inl (kp' b o (kk b o e) (fun w => by rw [wn b w] at e; cases e) f)
      have nfp : ¬ fp b := fun f => by rw [nf b f] at e; cases e
      rcases k₂ b o e with q | ⟨cl, sl, q⟩ | ⟨cl, o', q⟩
      · exact (h1 b o q).resolve_right nfp
      · rcases (h1 b _ q).resolve_right nfp with z | ⟨_, sl', z⟩ | ⟨z, _⟩
        · exact .inr (.inl ⟨cl, sl, z⟩)
        · exact .inr (.inl ⟨cl, sl', z⟩)
        · exact absurd (cl.symm.trans z) (by simp)
      · exact .inr (.inr ⟨cl, ((h1 b _ q).resolve_right nfp).ex⟩)
    · rcases q with q | q | q
      · exact nb (.inl q)
      · exact nb (.inr (q ▸ wD))
      · exact nb (.inr (q ▸ wC))
  exact codeAny_compStart_list loop (it.self _ _ _ _ _ st₄ loop)
theorem EvF.comp (O : B.Ok) {px pos : Pos} {iter elt : Expr} {ifs : List Expr} {sc : Scope} {ds out : List D} {cx : Bool} {Γc : G}
    (xi : EvIB B k K Γ iter ds) (sk : ScOk K Γ sc x cx) (hΓ : cap Γ sc.names = Γc) (c : CompR B k (relK K sc) Γc x ifs elt ds out) (hz : out.length ≤ sizeLine) (hs : ∀ env v, foldedSetIterable iter env v = pure v := by intro _ _; rfl) :
    EvF B k K Γ (.ListComp elt [⟨.Name x px, iter, ifs, 0⟩] sc pos) (.list out) := .mk fun A env V s Q E rm eo i g h => by
  subst hΓ
  rw [eval_ListComp]
  refine comp_core O xi sk c hz hs rm eo i g fun D₀ C s' i' kp nD nC hne lo loC hC cD => ?_
  (refine byEE (hC) fun o es hr4 => ?_; (try clear hC); refine byEAAA (hr4) fun ep hoC hcC hdC hkC => ?_; (try clear hr4))
  refine ⟨nsFind es, ⟨o, es, ep, hoC, hdC, hkC, fun _ => rfl⟩, fun h'' hsm => ?_⟩
  have keepK : ∀ b o, ¬ (V b ∨ b = D₀ ∨ b = C) → s'.heap.get? b = some o → IsData o → ¬ (V b ∨ b = D₀) ∧ h''.get? b = some o := fun b o nb e _ =>
    ⟨fun q => nb (q.imp id .inl), (hsm.2 b fun q => nb (.inr (.inr q))).trans e⟩
  exact h D₀ { s' with heap := h'' } (i'.sameBut O (tk := s'.toks) hsm loC fun o' e => by rw [hoC] at e; cases e; rw [hcC]; simp) (kp.but hsm nC) nD lo (cD.mono keepK fun o e _ => (hsm.2 D₀ (Ne.symm hne)).trans e)
theorem Ex1.assignC (O : B.Ok) {y : Str} {py p px pos : Pos} {iter elt : Expr} {ifs : List Expr} {sc : Scope} {ds out : List D} {cx : Bool} {Γc : G}
    (xi : EvIB B k K Γ iter ds) (sk : ScOk K Γ sc x cx) (hΓ : cap Γ sc.names = Γc) (c : CompR B k (relK K sc) Γc x ifs elt ds out) (hz : out.length ≤ sizeLine) (hy : K y = some .local ∨ K y = some .cell) (hs : ∀ env v, foldedSetIterable iter env v = pure v := by intro _ _; rfl)
    (hsw : ∀ env, EnvOk K env → swapsWith (.ListComp elt [⟨.Name x px, iter, ifs, 0⟩] sc pos) (some (.Name y py)) p.line env = pure true) :
    Ex1 B k K Γ (.Assign [.Name y py] (.ListComp elt [⟨.Name x px, iter, ifs, 0⟩] sc pos) p) .next (put Γ y (.own none (.list out))) := .mk fun A env V₀ W s Q E rm eo i st h => by
  subst hΓ
  rw [exec_Assign_Name_used _ _ _ _ (hsw env eo)]
  refine wpAny_bind (wpAny_standAt (wpAny_bind ?_))
  show wpAny _ A (do let _ ← comprehension (.ListComp elt [⟨.Name x px, iter, ifs, 0⟩] sc pos) sc env (firstIterPos [⟨.Name x px, iter, ifs, 0⟩] pos) (newList []) false (eval iter env) (some (PySem.assign (.Name y py) env))) _ _ s
  refine wpAny_bind (comp_core O xi sk c hz hs rm eo i st.r fun D₀ C s' i' kp nD nC hne lo loC hC cD => ?_)
  (refine byEE (hC) fun o es hr5 => ?_; (try clear hC); refine byEAAA (hr5) fun ep hoC hcC hdC hkC => ?_; (try clear hr5))
  show wpAny B.M A (PySem.assign (.Name y py) env (.ref D₀)) _ _ s'
  refine byEA (cD.there) fun oD hoD ioD => ?_
  have st2 : Stm B V₀ (fun b => (W b ∨ b = C) ∨ b = D₀) s'.heap env Γ := by
    exact st.grow2 kp nC nD loC lo ⟨_, hoC, fun q => q.1 (.inr (.inr (.inl hcC)))⟩ ⟨_, hoD, fun q => q.1 ioD⟩
  have hh : Holds B (fun b => V₀ b ∨ ((W b ∨ b = C) ∨ b = D₀)) s'.heap (.own none (.list out)) (.ref D₀) := ⟨D₀, rfl, (fun _ e => nomatch e), .inr (.inr rfl), cD.shrink fun b (q : V₀ b ∨ (W b ∨ b = C) ∨ b = D₀) => (by
    rcases q with q | (q | q) | q
    · exact .inl (.inl q)
    · exact .inl (.inr q)
    · exact .inr (.inr q)
    · exact .inr (.inl q))⟩
  refine wpAny_assign_Name (store_stm' O eo hy i' st2 hh (fun a? d' e => ?_) fun s₃ a i₃ u wa st₃ l1 l2 => ?_)
  · refine ⟨⟨D₀, rfl, .inr rfl, fun _ q => ?_⟩, fun z a?' d'' w hz' ez lz => st.notNew kp nD ez lz⟩
    refine byE (st.r.dom D₀ (.inl q)) fun o' e' => ?_
    rw [nD] at e'; cases e'
  · have nVC : ¬ V₀ C := fun q => by refine byE (st.r.dom C (.inl q)) fun o' e' => ?_; rw [nC] at e'; cases e'
    have nWC : ¬ W C := fun q => by refine byE (st.r.dom C (.inr q)) fun o' e' => ?_; rw [nC] at e'; cases e'
    have hlC : env.locals ≠ C := fun q => nWC (q ▸ st.loc.1)
    have hcC' : ∀ y c, (y, c) ∈ env.cells → c ≠ C := fun y c m q => nWC (q ▸ (st.cells y c m).1)
    have haC : C ≠ a := by
      rintro rfl
      refine byEEAA (u.old) fun o1 o2 h1 h2 cc => ?_
      rw [hoC] at h1; cases h1
      rcases cc with ⟨cc, _⟩ | ⟨cc, _⟩
      · rw [hcC] at cc; exact absurd cc (by simp)
      · rw [hcC] at cc; exact absurd cc (by simp)
    have hoC3 : s₃.heap.get? C = some o := (u.same.2 C haC).trans hoC
    refine ⟨nsFind es, ⟨o, es, ep, hoC3, hdC, hkC, fun _ => rfl⟩, fun h'' hsm => wpAny_pure (wpAny_pure ?_)⟩
    have st4 := st₃.drop (C := C) (.inl (.inr rfl)) nVC hsm hlC hcC' fun z a? d v ez lz => by
      rw [put_look] at ez
      by_cases q : (z == y) = true
      · rw [if_pos q] at ez
        obtain rfl := beq_iff_eq.mp q
        rw [← l1.same lz]
        intro q'
        cases q'
        exact hne rfl
      · rw [if_neg q] at ez
        have hz' : z ≠ y := fun q' => q (beq_iff_eq.mpr q')
        refine byEA (st2.r.vars z _ ez) fun w' lw _ => ?_
        have := (l2 z w' hz' lw).same lz
        subst this
        exact st.notNew kp nC ez lw
    have kp3 : KpOff W s.heap s₃.heap := fun b o nb e => by
      have hb : b ≠ a := by
        rintro rfl
        rcases wa with (q | q) | q
        · exact nb q
        · exact haC q.symm
        · rw [q, nD] at e; cases e
      exact (kp b o e).same (u.same.2 b hb)
    refine h .next { s₃ with heap := h'' } _ (i₃.sameBut O (tk := s₃.toks) hsm loC fun o' e => by rw [hoC3] at e; cases e; rw [hcC]; simp) (fun b o' e => ?_) ⟨fun b q => ?_, fun b o' nb e => (kp3 b o' nb e).same (hsm.2 b (by rintro rfl; rw [nC] at e; cases e))⟩ st4 rfl
    · refine byE ((kp b o' e).ex) fun o1 e1 => ?_
      refine byE (u.dom b o1 e1) fun o2 e2 => ?_
      exact ⟨o2, (hsm.2 b (by rintro rfl; rw [nC] at e; cases e)).trans e2⟩
    · refine byA (q) fun q nq => ?_
      rcases q with (q | q) | q
      · exact .inl q
      · exact absurd q nq
      · exact .inr (q ▸ nD)
end
end Jv
namespace Jv
open PySem PySem.W PySem.Calls PyProof.Rows
section
variable {B : Base} {k : Nat} {K : Kinds} {Γ Γ' : G} {V Wc : Addr → Prop} {h h' : Heap} {env : Env} {x : Str}
theorem own_plain {M : Model} {A : Around} {I : Addr} {ts : List Expr} {n : Nat} {p : Pos} {v : Value} {s : Shared} {o : Obj} {c : String} {Q : Unit → Shared → Prop} {E : Value → Shared → Prop} (ho : s.heap.get? I = some o) (hc : o.cls = .type c)
    (hn : ["enumerate", "zip", "dict_itemiterator", "dict_reverseitemiterator", "odict_iterator", "itertools.zip_longest", "itertools.pairwise"].contains c = false) (h : Q () s) : wpAny M A (letOwnedTupleGo (.Tuple ts n p) (.ref I) v) Q E s := by
  unfold letOwnedTupleGo
  cases v with
  | ref a =>
    refine wpAny_bind (wpAny_load ho ?_)
    rw [hc]
    cases hd : o.data with
    | fields vs =>
      dsimp only
      rw [hn]
      exact wpAny_pure h
    | _ => exact wpAny_pure h
  | _ => exact wpAny_pure h
theorem priv_of {o : Obj} {c : String} (e : o.cls = .type c) (h : (c == "list" || c == "tuple" || c == "dict" || c == "set" || c == "frame" || c == "cell") = false) : IsPriv o ∧ o.cls ≠ .none := by
  simp only [Bool.or_eq_false_iff, beq_eq_false_iff_ne] at h
  refine ⟨⟨fun i => ?_, ?_, ?_⟩, by rw [e]; simp⟩
  · rcases i with q | q | q | q <;> (rw [e] at q; injection q with q; simp [q] at h)
  · rw [e]; intro q; injection q with q; exact h.1.2 q
  · rw [e]; intro q; injection q with q; exact h.2 q
theorem notData_of {o : Obj} {c : String} (e : o.cls = .type c) (h : (c == "list" || c == "tuple" || c == "dict" || c == "set" || c == "frame" || c == "cell") = false) : ¬ IsData o := (priv_of e h).1.1
theorem Iter.list (O : B.Ok) {A : Around} (hh : A.handled = none) {I ax : Addr} {items : Array Value} (hne : ax ≠ I) (lo : B.n₀ ≤ I) (bo : Bool) :
    Iter B A I (fun b => b = I) (fun b => bo = true ∧ b = ax) false
      (fun V ds h => ∃ i, h.IsListIter I ax i ∧ h.IsList ax items ∧ (bo = false → ¬ V ax) ∧ Lays B V h ds (items.toList.drop i))
      (fun V ds v h => ∃ i, h.IsListIter I ax i ∧ h.IsList ax items ∧ (bo = false → ¬ V ax) ∧ Lays B V h ds (items.toList.drop i)) where
  frame := fun V V' ds h h' hx hv hk => by
    (refine byEAAA (hx) fun i h1 h2 h3 h4 => ?_; (try clear hx))
    (refine byEAA (h1) fun oi a1 a2 a3 => ?_; (try clear h1))
    (refine byEAA (h2) fun ol b1 b2 b3 => ?_; (try clear h2))
    refine ⟨i, ⟨oi, hk _ _ a1 (.inl rfl), a2, a3⟩, ⟨ol, hk _ _ b1 ?_, b2, b3⟩, fun q w => ?_, h4.mono fun b o nb e d => ⟨fun w => (hv b w).elim nb (fun z => by rw [e] at z; cases z), hk _ _ e (.inr (.inr ⟨nb, d⟩))⟩⟩
    · cases bo with
      | true => exact .inr (.inl ⟨rfl, rfl⟩)
      | false => exact .inr (.inr ⟨h3 rfl, .inl b2⟩)
    · rcases hv _ w with w | w
      · exact h3 q w
      · rw [b1] at w; cases w
  item := fun V d ds s Q E inv _ hx hQ => by
    (refine byEAAA (hx) fun i h1 h2 h3 h4 => ?_; (try clear hx))
    have hl : i < items.size := by
      have := h4.length
      simp at this
      omega
    have e4 : items.toList.drop i = items[i] :: items.toList.drop (i + 1) := by simp [List.drop_eq_getElem_cons, hl]
    rw [e4] at h4
    simp only [Lays] at h4
    (refine byEEAA (h4) fun v r e lv lr => ?_; (try clear h4))
    refine byA (List.cons.inj e) fun ev er => ?_
    subst ev; subst er
    refine wpAny_pyNext_list_item (prog := B.prog) (w := B.w) h1 h2 (x := items[i]) (by simp [hl]) fun h' hit hs => ?_
    refine byEAA (id h1) fun oi a1 a2 a3 => ?_
    have nI : ∀ b o, s.heap.get? b = some o → IsData o → b ≠ I := fun b o e d => by
      rintro rfl
      rw [a1] at e; cases e
      exact notData_of a2 (by decide) d
    have keepK : ∀ b o, ¬ V b → s.heap.get? b = some o → IsData o → ¬ V b ∧ h'.get? b = some o := fun b o nb e d => ⟨nb, (hs.2 b (nI b o e d)).trans e⟩
    refine hQ _ { s with heap := h' } (inv.sameBut O (tk := s.toks) hs lo fun o e => by rw [a1] at e; cases e; rw [a2]; simp) ⟨i + 1, hit, h2.extBut hs.extBut hne, h3, lr.mono keepK⟩ (fun b o e nb => (hs.2 b nb).trans e)
      (lv.mono fun b o nb e d => ⟨fun q => q.elim nb (nI b o e d), (hs.2 b (nI b o e d)).trans e⟩)
  done := fun V s Q E inv hx hQ => by
    (refine byEAAA (hx) fun i h1 h2 h3 h4 => ?_; (try clear hx))
    simp only [Lays] at h4
    have hl : items.size ≤ i := by simpa using h4
    refine byEAA (id h1) fun oi a1 a2 a3 => ?_
    refine wpAny_pyNext_list_end (prog := B.prog) (w := B.w) hh h1 h2 (by simp [hl]) fun h' hs => hQ { s with heap := h' } ?_ fun b o e nb => hs b o nb e
    refine ⟨O.step _ _ inv.good fun b o hb e => hs b o (by rintro rfl; exact absurd lo (Nat.not_le.mpr hb)) e, inv.gens, inv.os, ?_⟩
    refine byEA (inv.fr) fun l e hl => ?_
    refine ⟨l, e, fun env' he => ?_⟩
    (refine byA (hl env' he) fun hk hr1 => ?_; refine byEE (hr1) fun L o hr2 => ?_; (try clear hr1); refine byEEAAA (hr2) fun es ep f1 f2 f3 hr3 => ?_; (try clear hr2); refine byA (hr3) fun f4 f5 => ?_; (try clear hr3))
    exact ⟨hk, L, o, es, ep, f1, f2, hs L o (by rintro rfl; rw [a1] at f3; cases f3; rw [a2] at f4; exact absurd f4 (by simp)) f3, f4, f5⟩
  self := fun V ds s Q E hx hQ => by (refine byEA (hx) fun i h1 _ => ?_; (try clear hx)); exact wpAny_pyIter_listiter (prog := B.prog) (w := B.w) h1 hQ
  own := fun V ds ts n p v s Q E inv hx hQ => by
    (refine byEA (hx) fun i h1 h2 => ?_; (try clear hx))
    refine byEAA (id h1) fun oi a1 a2 a3 => ?_
    exact own_plain a1 a2 (by decide) (hQ s inv ⟨i, h1, h2⟩ fun _ _ e _ => e)
  plain := fun _ _ _ _ _ x => x
  there := fun V ds h b hx e => by (refine byEA (hx) fun i hp4 _ => ?_; (try clear hx); obtain ⟨oi, a1, a2, _⟩ := hp4); exact ⟨oi, e ▸ a1, priv_of a2 (by decide)⟩
  thereO := fun V ds v h b hx e => by (refine byEA (hx) fun i hp5 _ => ?_; (try clear hx); obtain ⟨oi, a1, a2, _⟩ := hp5); exact ⟨oi, e ▸ a1, priv_of a2 (by decide)⟩
  data := fun V ds h b hx e => by (refine byEAA (hx) fun i _ hp6 _ => ?_; (try clear hx); obtain ⟨ol, b1, b2, _⟩ := hp6); exact ⟨ol, e.2 ▸ b1, .inl b2⟩
theorem Iter.tuple (O : B.Ok) {A : Around} (hh : A.handled = none) {I ax : Addr} {items : Array Value} (hne : ax ≠ I) (lo : B.n₀ ≤ I) (bo : Bool) :
    Iter B A I (fun b => b = I) (fun b => bo = true ∧ b = ax) false
      (fun V ds h => ∃ i, h.IsTupleIter I ax i ∧ h.IsTuple ax items ∧ (bo = false → ¬ V ax) ∧ Lays B V h ds (items.toList.drop i))
      (fun V ds v h => ∃ i, h.IsTupleIter I ax i ∧ h.IsTuple ax items ∧ (bo = false → ¬ V ax) ∧ Lays B V h ds (items.toList.drop i)) where
  frame := fun V V' ds h h' hx hv hk => by
    (refine byEAAA (hx) fun i h1 h2 h3 h4 => ?_; (try clear hx))
    (refine byEAA (h1) fun oi a1 a2 a3 => ?_; (try clear h1))
    (refine byEAA (h2) fun ol b1 b2 b3 => ?_; (try clear h2))
    refine ⟨i, ⟨oi, hk _ _ a1 (.inl rfl), a2, a3⟩, ⟨ol, hk _ _ b1 ?_, b2, b3⟩, fun q w => ?_, h4.mono fun b o nb e d => ⟨fun w => (hv b w).elim nb (fun z => by rw [e] at z; cases z), hk _ _ e (.inr (.inr ⟨nb, d⟩))⟩⟩
    · cases bo with
      | true => exact .inr (.inl ⟨rfl, rfl⟩)
      | false => exact .inr (.inr ⟨h3 rfl, .inr (.inl b2)⟩)
    · rcases hv _ w with w | w
      · exact h3 q w
      · rw [b1] at w; cases w
  item := fun V d ds s Q E inv _ hx hQ => by
    (refine byEAAA (hx) fun i h1 h2 h3 h4 => ?_; (try clear hx))
    have hl : i < items.size := by
      have := h4.length
      simp at this
      omega
    have e4 : items.toList.drop i = items[i] :: items.toList.drop (i + 1) := by simp [List.drop_eq_getElem_cons, hl]
    rw [e4] at h4
    simp only [Lays] at h4
    (refine byEEAA (h4) fun v r e lv lr => ?_; (try clear h4))
    refine byA (List.cons.inj e) fun ev er => ?_
    subst ev; subst er
    refine wpAny_pyNext_tuple_item (prog := B.prog) (w := B.w) h1 h2 (x := items[i]) (by simp [hl]) fun h' hit hs => ?_
    refine byEAA (id h1) fun oi a1 a2 a3 => ?_
    have nI : ∀ b o, s.heap.get? b = some o → IsData o → b ≠ I := fun b o e d => by
      rintro rfl
      rw [a1] at e; cases e
      exact notData_of a2 (by decide) d
    have keepK : ∀ b o, ¬ V b → s.heap.get? b = some o → IsData o → ¬ V b ∧ h'.get? b = some o := fun b o nb e d => ⟨nb, (hs.2 b (nI b o e d)).trans e⟩
    refine hQ _ { s with heap := h' } (inv.sameBut O (tk := s.toks) hs lo fun o e => by rw [a1] at e; cases e; rw [a2]; simp) ⟨i + 1, hit, h2.extBut hs.extBut hne, h3, lr.mono keepK⟩ (fun b o e nb => (hs.2 b nb).trans e)
      (lv.mono fun b o nb e d => ⟨fun q => q.elim nb (nI b o e d), (hs.2 b (nI b o e d)).trans e⟩)
  done := fun V s Q E inv hx hQ => by
    (refine byEAAA (hx) fun i h1 h2 h3 h4 => ?_; (try clear hx))
    simp only [Lays] at h4
    have hl : items.size ≤ i := by simpa using h4
    refine byEAA (id h1) fun oi a1 a2 a3 => ?_
    refine wpAny_pyNext_tuple_end (prog := B.prog) (w := B.w) hh h1 h2 (by simp [hl]) fun h' hs => hQ { s with heap := h' } ?_ fun b o e nb => hs b o nb e
    refine ⟨O.step _ _ inv.good fun b o hb e => hs b o (by rintro rfl; exact absurd lo (Nat.not_le.mpr hb)) e, inv.gens, inv.os, ?_⟩
    refine byEA (inv.fr) fun l e hl => ?_
    refine ⟨l, e, fun env' he => ?_⟩
    (refine byA (hl env' he) fun hk hr7 => ?_; refine byEE (hr7) fun L o hr8 => ?_; (try clear hr7); refine byEEAAA (hr8) fun es ep f1 f2 f3 hr9 => ?_; (try clear hr8); refine byA (hr9) fun f4 f5 => ?_; (try clear hr9))
    exact ⟨hk, L, o, es, ep, f1, f2, hs L o (by rintro rfl; rw [a1] at f3; cases f3; rw [a2] at f4; exact absurd f4 (by simp)) f3, f4, f5⟩
  self := fun V ds s Q E hx hQ => by (refine byEA (hx) fun i h1 _ => ?_; (try clear hx)); exact wpAny_pyIter_tupleiter (prog := B.prog) (w := B.w) h1 hQ
  own := fun V ds ts n p v s Q E inv hx hQ => by
    (refine byEA (hx) fun i h1 h2 => ?_; (try clear hx))
    refine byEAA (id h1) fun oi a1 a2 a3 => ?_
    exact own_plain a1 a2 (by decide) (hQ s inv ⟨i, h1, h2⟩ fun _ _ e _ => e)
  plain := fun _ _ _ _ _ x => x
  there := fun V ds h b hx e => by (refine byEA (hx) fun i hp10 _ => ?_; (try clear hx); obtain ⟨oi, a1, a2, _⟩ := hp10); exact ⟨oi, e ▸ a1, priv_of a2 (by decide)⟩
  thereO := fun V ds v h b hx e => by (refine byEA (hx) fun i hp11 _ => ?_; (try clear hx); obtain ⟨oi, a1, a2, _⟩ := hp11); exact ⟨oi, e ▸ a1, priv_of a2 (by decide)⟩
  data := fun V ds h b hx e => by (refine byEAA (hx) fun i _ hp12 _ => ?_; (try clear hx); obtain ⟨ol, b1, b2, _⟩ := hp12); exact ⟨ol, e.2 ▸ b1, .inr (.inl b2)⟩
theorem EvI.list (O : B.Ok) {e : Expr} {ds : List D} (x : Ev B (k + 1) K Γ e (.list ds)) : EvI B (k + 1) K Γ e false ds := .mk fun A env V s Q E rm o i g h =>
  x.run A env V s _ E rm o i g fun v s₁ i₁ k₁ l₁ => by
    simp only [Lay] at l₁
    (refine byEA (l₁) fun a hq13 hr14 => ?_; (try clear l₁); subst hq13; refine byA (hr14) fun na hr15 => ?_; (try clear hr14); refine byEA (hr15) fun items il' ls => ?_; (try clear hr15))
    have il := il'.isList
    have kp : ∀ b o, s₁.heap.get? b = some o → (s₁.heap.push { cls := .type "list_iterator", data := .fields #[.ref a, .int 0 0] }).get? b = some o := fun b o e => Heap.get?_push_of_some _ e
    refine wpAny_pyIter_list (prog := B.prog) (w := B.w) il (h _ _ _ _ _ { s₁ with heap := s₁.heap.push { cls := .type "list_iterator", data := .fields #[.ref a, .int 0 0] } } (i₁.keep O (tk := s₁.toks) kp) (k₁.trans (.of kp)) (Iter.list O (rm.handled (Nat.succ_pos _)) (items := items) (ax := a) ?_ (O.size _ i₁.good) false) ⟨0, ⟨_, Heap.get?_push_size _ rfl, rfl, rfl⟩, il.push _, fun _ => na, ?_⟩ ?_ ?_)
    · (refine byEA (il) fun o ho _ => ?_; (try clear il)); exact Nat.ne_of_lt (Heap.lt_size ho)
    · exact ls.kp (.of kp)
    · rintro b rfl
      cases e : s.heap.get? s₁.heap.objs.size with
      | none => rfl
      | some o => refine byE ((k₁ _ _ e).ex) fun o' e' => ?_; exact absurd (Heap.lt_size e') (Nat.lt_irrefl _)
    · rintro b ⟨q, _⟩; cases q
theorem EvIB.list (O : B.Ok) {e : Expr} {ds : List D} (x : EvB B (k + 1) K Γ e (.list ds)) : EvIB B (k + 1) K Γ e ds := .mk fun A env V s Q E rm o i g h =>
  x.run A env V s _ E rm o i g fun v s₁ i₁ k₁ l₁ => by
    (refine byEEA (l₁.asList) fun a items hq16 hr17 => ?_; subst hq16; refine byA (hr17) fun il' ls => ?_; (try clear hr17))
    have il := il'.isList
    have kp : ∀ b o, s₁.heap.get? b = some o → (s₁.heap.push { cls := .type "list_iterator", data := .fields #[.ref a, .int 0 0] }).get? b = some o := fun b o e => Heap.get?_push_of_some _ e
    refine wpAny_pyIter_list (prog := B.prog) (w := B.w) il (h _ _ _ _ _ { s₁ with heap := s₁.heap.push { cls := .type "list_iterator", data := .fields #[.ref a, .int 0 0] } } (i₁.keep O (tk := s₁.toks) kp) (k₁.trans (.of kp)) (Iter.list O (rm.handled (Nat.succ_pos _)) (items := items) (ax := a) ?_ (O.size _ i₁.good) true) ⟨0, ⟨_, Heap.get?_push_size _ rfl, rfl, rfl⟩, il.push _, (fun q => nomatch q), ?_⟩ ?_)
    · (refine byEA (il) fun o ho _ => ?_; (try clear il)); exact Nat.ne_of_lt (Heap.lt_size ho)
    · exact ls.kp (.of kp)
    · rintro b rfl
      cases e : s.heap.get? s₁.heap.objs.size with
      | none => rfl
      | some o => refine byE ((k₁ _ _ e).ex) fun o' e' => ?_; exact absurd (Heap.lt_size e') (Nat.lt_irrefl _)
theorem EvI.tuple (O : B.Ok) {e : Expr} {ds : List D} (x : Ev B (k + 1) K Γ e (.tup ds)) : EvI B (k + 1) K Γ e false ds := .mk fun A env V s Q E rm o i g h =>
  x.run A env V s _ E rm o i g fun v s₁ i₁ k₁ l₁ => by
    simp only [Lay] at l₁
    (refine byEA (l₁) fun a hq18 hr19 => ?_; (try clear l₁); subst hq18; refine byA (hr19) fun na hr20 => ?_; (try clear hr19); refine byEA (hr20) fun items il' ls => ?_; (try clear hr20))
    have il := il'.isTuple
    have kp : ∀ b o, s₁.heap.get? b = some o → (s₁.heap.push { cls := .type "tuple_iterator", data := .fields #[.ref a, .int 0 0] }).get? b = some o := fun b o e => Heap.get?_push_of_some _ e
    refine wpAny_pyIter_tuple (prog := B.prog) (w := B.w) il (h _ _ _ _ _ { s₁ with heap := s₁.heap.push { cls := .type "tuple_iterator", data := .fields #[.ref a, .int 0 0] } } (i₁.keep O (tk := s₁.toks) kp) (k₁.trans (.of kp)) (Iter.tuple O (rm.handled (Nat.succ_pos _)) (items := items) (ax := a) ?_ (O.size _ i₁.good) false) ⟨0, ⟨_, Heap.get?_push_size _ rfl, rfl, rfl⟩, il.push _, fun _ => na, ?_⟩ ?_ ?_)
    · (refine byEA (il) fun o ho _ => ?_; (try clear il)); exact Nat.ne_of_lt (Heap.lt_size ho)
    · exact ls.kp (.of kp)
    · rintro b rfl
      cases e : s.heap.get? s₁.heap.objs.size with
      | none => rfl
      | some o => refine byE ((k₁ _ _ e).ex) fun o' e' => ?_; exact absurd (Heap.lt_size e') (Nat.lt_irrefl _)
    · rintro b ⟨q, _⟩; cases q
end
end Jv
namespace Jv
open PySem PySem.W PySem.Calls PyProof.Rows
noncomputable def FnAt (B : Base) (name : Str) (params : Arguments) (body : List Stmt) (scope : Scope) : Prop :=
  ∃ a pm cd doc, B.mg name = some (.ref a) ∧ ∀ h, B.good h → (∃ o, h.get? a = some o ∧ o.data = .func (docDef name params body scope pm cd doc)) ∧ h.CodeRec cd name
section
variable {B : Base} {k : Nat} {K : Kinds} {Γ Γ' : G} {V W : Addr → Prop} {h h' : Heap} {env : Env} {x : Str}
theorem pushCells_cells : ∀ (names : List (Str × NameKind)) (h : Heap) (acc : List (Str × Addr)), (∀ x c, (x, c) ∈ acc → CellAt h c none) → ∀ x c, (x, c) ∈ cellsFrom h.objs.size names acc → CellAt (pushCells h names) c none
  | [], h, acc, ha, x, c, m => ha x c m
  | (n, kd) :: r, h, acc, ha, x, c, m => by
    unfold pushCells
    unfold cellsFrom at m
    split at m
    · rename_i hk
      rw [if_pos hk]
      have := pushCells_cells r (h.push { cls := .type "cell", data := .cell none }) ((n, h.objs.size) :: acc) (fun y c' m' => by
        rcases List.mem_cons.mp m' with e | m'
        · cases e; exact ⟨_, Heap.get?_push_size _ rfl, rfl, rfl⟩
        · refine byEA (ha y c' m') fun o h1 h2 => ?_; exact ⟨o, Heap.get?_push_of_some _ h1, h2⟩)
      rw [Heap.size_push] at this
      exact this x c m
    · rename_i hk
      rw [if_neg hk]
      exact pushCells_cells r h acc ha x c m
theorem cellsFrom_ge : ∀ (names : List (Str × NameKind)) (n lo : Nat) (acc : List (Str × Addr)), lo ≤ n → (∀ x c, (x, c) ∈ acc → lo ≤ c) → ∀ x c, (x, c) ∈ cellsFrom n names acc → lo ≤ c
  | [], n, lo, acc, hn, ha, x, c, m => ha x c m
  | (y, kd) :: r, n, lo, acc, hn, ha, x, c, m => by
    unfold cellsFrom at m
    split at m
    · exact cellsFrom_ge r (n + 1) lo _ (Nat.le_succ_of_le hn) (fun z c' m' => by
        rcases List.mem_cons.mp m' with e | m'
        · cases e; exact hn
        · exact ha z c' m') x c m
    · exact cellsFrom_ge r n lo acc hn ha x c m
theorem cellsFrom_has : ∀ (names : List (Str × NameKind)) (n : Nat) (acc : List (Str × Addr)) (x : Str), ((∃ c, acc.lookup x = some c) ∨ (x, NameKind.cell) ∈ names) → ∃ c, (cellsFrom n names acc).lookup x = some c
  | [], n, acc, x, hx => by
    rcases hx with hx | hx
    · exact hx
    · cases hx
  | (y, kd) :: r, n, acc, x, hx => by
    unfold cellsFrom
    split
    · rename_i hk
      refine cellsFrom_has r _ _ x ?_
      rw [List.lookup_cons]
      cases hy : x == y with
      | true => exact .inl ⟨_, rfl⟩
      | false =>
        refine hx.imp id fun m => ?_
        rcases List.mem_cons.mp m with e | m
        · injection e with e1 e2; rw [e1] at hy; simp at hy
        · exact m
    · rename_i hk
      refine cellsFrom_has r _ _ x (hx.imp id fun m => ?_)
      rcases List.mem_cons.mp m with e | m
      · injection e with e1 e2; exact absurd (by rw [← e2]; rfl) hk
      · exact m
noncomputable def putAll : G → List Str → List D → G
  | Γ, x :: xs, d :: ds => putAll (put Γ x (.sh d)) xs ds
  | Γ, _, _ => Γ
theorem bindParams (O : B.Ok) {A : Around} (f : Str × Value → PUnit → Sem (ForInStep PUnit)) (hf : ∀ n v u, f (n, v) u = (do storeName env n v; pure (.yield ⟨⟩))) (eo : EnvOk K env) {V₀ : Addr → Prop} :
    ∀ (xs : List Str) (ds : List D) (vs : List Value) (Γ : G) (s : Shared) (Q : PUnit → Shared → Prop) (E : Value → Shared → Prop), Inv B A s → Stm B V₀ W s.heap env Γ → Lays B (fun b => V₀ b ∨ W b) s.heap ds vs → xs.length = ds.length → (∀ x ∈ xs, K x = some .local ∨ K x = some .cell) →
      (∀ s', Inv B A s' → Dom s.heap s'.heap → Ext W s.heap W s'.heap → Stm B V₀ W s'.heap env (putAll Γ xs ds) → Q ⟨⟩ s') → wpAny B.M A (forIn (xs.zip vs) ⟨⟩ f) Q E s
  | [], ds, vs, Γ, s, Q, E, i, st, l, hl, hk, hQ => by
    cases ds with
    | nil => rw [List.zip_nil_left, List.forIn_nil]; exact wpAny_pure (hQ s i (.refl _) (.refl _ _) st)
    | cons d ds => cases hl
  | x :: xs, [], vs, Γ, s, Q, E, i, st, l, hl, hk, hQ => by cases hl
  | x :: xs, d :: ds, vs, Γ, s, Q, E, i, st, l, hl, hk, hQ => by
    simp only [Lays] at l
    (refine byEEA (l) fun v r hq1 hr2 => ?_; (try clear l); subst hq1; refine byA (hr2) fun l1 l2 => ?_; (try clear hr2))
    rw [List.zip_cons_cons, List.forIn_cons, hf]
    refine wpAny_bind (wpAny_bind (store_stm O eo (hk x List.mem_cons_self) i st (sl := .sh d) l1 (fun _ _ e => nomatch e) fun s₁ i₁ d₁ e₁ st₁ => wpAny_pure ?_))
    exact bindParams O f hf eo xs ds r _ s₁ Q E i₁ st₁ (lays_ext l2 e₁) (by simpa using hl) (fun y hy => hk y (List.mem_cons_of_mem _ hy)) fun s₂ i₂ d₂ e₂ st₂ => hQ s₂ i₂ (d₁.trans d₂) (e₁.trans e₂ d₁) st₂
noncomputable def fnEnv (scope : Scope) (L a : Addr) (name : Str) (cd : Value) (cells : List (Str × Addr)) : Env :=
  { scope := scope, locals := L, globals := mainGlobals, cells := cells, qual := name ++ ".<locals>.", func := some a, code := cd, frame := some L, builtins := builtinsNs }
theorem fn_frame (O : B.Ok) {A : Around} {scope : Scope} {a : Addr} {name : Str} {cd : Value} {xs : List Str} {ds : List D} {vs : List Value} {s : Shared} {Q : Env → Shared → Prop} {E : Value → Shared → Prop}
    (hk : scope.kind = .function) (i : Inv B A s) (dm : ∀ b, V b → ∃ o, s.heap.get? b = some o ∧ ¬ IsPriv o) (ls : Lays B V s.heap ds vs) (hl : xs.length = ds.length) (hx : ∀ x ∈ xs, scope.names.lookup x = some .local ∨ scope.names.lookup x = some .cell)
    (hQ : ∀ env s' W, env = fnEnv scope s.heap.objs.size a name cd env.cells → Inv B A s' → Kp s.heap s'.heap → (∀ b, W b → s.heap.get? b = none) → EnvOk (fun y => scope.names.lookup y) env → Stm B V W s'.heap env (putAll [] xs ds) → Q env s') :
    wpAny B.M A (newFunctionEnv scope mainGlobals [] (xs.zip vs) (name ++ ".<locals>.") (some a) cd none builtinsNs) Q E s := by
  simp only [newFunctionEnv, Option.isSome_none, Bool.false_eq_true, if_false]
  refine wpAny_bind (wpAny_alloc ?_)
  refine wpAny_bind (wpAny_layCells _ (fun name kind cells => by cases hkc : kind == NameKind.cell <;> simp) _ _ _ _ ?_)
  rw [show ({ s with heap := s.heap.push { cls := .type "frame", data := .dict #[] } } : Shared).heap.objs.size = s.heap.objs.size + 1 from Heap.size_push ..]
  have ok := cellsFrom_ok scope.names (s.heap.push { cls := .type "frame", data := .dict #[] }) (s.heap.objs.size + 1) [] ⟨fun _ _ hm => (nomatch hm), List.Pairwise.nil⟩ (by rw [Heap.size_push]; exact Nat.le_refl _)
  have cc := pushCells_cells scope.names (s.heap.push { cls := .type "frame", data := .dict #[] }) [] (fun _ _ m => nomatch m)
  rw [Heap.size_push] at ok cc
  have hsz : B.n₀ ≤ s.heap.objs.size := O.size _ i.good
  have k1 : ∀ b o, s.heap.get? b = some o → (pushCells (s.heap.push { cls := .type "frame", data := .dict #[] }) scope.names).get? b = some o := fun b o e => pushCells_keeps _ _ _ _ (Heap.get?_push_of_some _ e)
  have hL : (pushCells (s.heap.push { cls := .type "frame", data := .dict #[] }) scope.names).get? s.heap.objs.size = some { cls := .type "frame", data := .dict #[] } := pushCells_keeps _ _ _ _ (Heap.get?_push_size _ rfl)
  have hge := cellsFrom_ge scope.names (s.heap.objs.size + 1) (s.heap.objs.size + 1) [] (Nat.le_refl _) (fun _ _ m => nomatch m)
  have eo : EnvOk (fun y => scope.names.lookup y) (fnEnv scope s.heap.objs.size a name cd (cellsFrom (s.heap.objs.size + 1) scope.names [])) := ⟨hk, rfl, rfl, fun _ => rfl⟩
  have Wn : ∀ b, (b = s.heap.objs.size ∨ ∃ x, (x, b) ∈ cellsFrom (s.heap.objs.size + 1) scope.names []) → s.heap.get? b = none := fun b q => by
    rcases q with rfl | ⟨x, m⟩
    · exact none_size (Nat.le_refl _)
    · exact none_size (Nat.le_of_succ_le (hge x b m))
  have i1 : Inv B A { s with heap := pushCells (s.heap.push { cls := .type "frame", data := .dict #[] }) scope.names } := i.keep O (tk := s.toks) k1
  have st1 : Stm B V (fun b => b = s.heap.objs.size ∨ ∃ x, (x, b) ∈ cellsFrom (s.heap.objs.size + 1) scope.names []) (pushCells (s.heap.push { cls := .type "frame", data := .dict #[] }) scope.names) (fnEnv scope s.heap.objs.size a name cd (cellsFrom (s.heap.objs.size + 1) scope.names [])) [] := by
    refine ⟨⟨fun b hb => ?_, (fun y sl e => nomatch e)⟩, fun b q => ?_, rfl, ⟨.inl rfl, _, _, _, hL, rfl, rfl, fun e he => by simp at he⟩, fun y c m => ⟨.inr ⟨y, m⟩, none, cc y c m⟩, ok.apart, fun y e => cellsFrom_has _ _ _ y (.inr (mem_of_lookup e)), (fun y a? d v e => nomatch e), (fun y z _ _ _ _ _ e => nomatch e)⟩
    · rcases hb with hb | rfl | ⟨x, m⟩
      · refine byEA (dm b hb) fun o e n => ?_; exact ⟨o, k1 b o e, n⟩
      · exact ⟨_, hL, fun q => q.2.1 rfl⟩
      · refine byEAA (cc x b m) fun o e c _ => ?_; exact ⟨o, e, fun q => q.2.2 c⟩
    · rcases q with rfl | ⟨x, m⟩
      · exact hsz
      · exact Nat.le_trans hsz (Nat.le_of_succ_le (hge x b m))
  have ls1 : Lays B (fun b => V b ∨ (b = s.heap.objs.size ∨ ∃ x, (x, b) ∈ cellsFrom (s.heap.objs.size + 1) scope.names [])) (pushCells (s.heap.push { cls := .type "frame", data := .dict #[] }) scope.names) ds vs :=
    ls.mono fun b o nb e _ => ⟨fun q => q.elim nb (fun z => by rw [Wn b z] at e; cases e), k1 b o e⟩
  refine wpAny_bind (bindParams (env := fnEnv scope s.heap.objs.size a name cd (cellsFrom (s.heap.objs.size + 1) scope.names [])) O _ (fun _ _ _ => rfl) eo xs ds vs [] _ _ _ i1 st1 ls1 hl hx fun s' i' d' e' st' => wpAny_pure ?_)
  refine hQ _ s' _ rfl i' (fun b o e => ?_) Wn eo st'
  exact e'.kp b o (fun q => by rw [Wn b q] at e; cases e) (k1 b o e)
noncomputable def Calls (B : Base) (k : Nat) (f : Str) (ds : List D) (d : D) : Prop := ∀ (A : Around) (V : Addr → Prop) (s : Shared) (vs : List Value) (Q : Value → Shared → Prop) (E : Value → Shared → Prop),
  Room k A → Inv B A s → (∀ b, V b → ∃ o, s.heap.get? b = some o ∧ ¬ IsPriv o) → Lays B V s.heap ds vs → (∀ v s', Inv B A s' → Kp s.heap s'.heap → Lay B V s'.heap d v → Q v s') →
  ∃ a, B.mg f = some (.ref a) ∧ wpAny B.M A (call (.ref a) vs) Q E s
noncomputable def Binds (B : Base) (name : Str) (params : Arguments) (body : List Stmt) (scope : Scope) (ds : List D) (xs : List Str) (ds' : List D) : Prop := ∀ (pm cd doc : Value) (A : Around) (V : Addr → Prop) (s : Shared) (vs : List Value) (Q : List (Str × Value) → Shared → Prop) (E : Value → Shared → Prop),
  Inv B A s → (∀ b, V b → ∃ o, s.heap.get? b = some o ∧ ¬ IsPriv o) → Lays B V s.heap ds vs → (∀ vs' s', Inv B A s' → Kp s.heap s'.heap → Lays B V s'.heap ds' vs' → Q (xs.zip vs') s') → wpAny B.M A (bindArgs (docDef name params body scope pm cd doc) ⟨vs, []⟩) Q E s
theorem len0 {P : List Value → Prop} (k : P []) (vs : List Value) (h : vs.length = 0) : P vs := by
  cases vs with
  | nil => exact k
  | cons a l => cases h
theorem lenS {n : Nat} {P : List Value → Prop} (k : ∀ a vs, vs.length = n → P (a :: vs)) (vs : List Value) (h : vs.length = n + 1) : P vs := by
  cases vs with
  | nil => cases h
  | cons a l => exact k a l (Nat.succ.inj h)
theorem len1 {P : List Value → Prop} (k : ∀ a, P [a]) : ∀ vs : List Value, vs.length = 1 → P vs := lenS fun a => len0 (P := fun l => P (a :: l)) (k a)
theorem len2 {P : List Value → Prop} (k : ∀ a b, P [a, b]) : ∀ vs : List Value, vs.length = 2 → P vs := lenS fun a => len1 (P := fun l => P (a :: l)) (k a)
theorem len3 {P : List Value → Prop} (k : ∀ a b c, P [a, b, c]) : ∀ vs : List Value, vs.length = 3 → P vs := lenS fun a => len2 (P := fun l => P (a :: l)) (k a)
theorem Binds.plain {name : Str} {params : Arguments} {body : List Stmt} {scope : Scope} {ds : List D} {xs : List Str} (hb : ∀ pm cd doc vs, vs.length = xs.length → bindArgs (docDef name params body scope pm cd doc) ⟨vs, []⟩ = pure (xs.zip vs)) (hl : xs.length = ds.length := by rfl) :
    Binds B name params body scope ds xs ds := fun pm cd doc A V s vs Q E i dm ls h => by
  rw [hb pm cd doc vs (ls.length.trans hl.symm)]
  exact wpAny_pure (h vs s i (.refl _) ls)
theorem Inv.in1 {A : Around} {s : Shared} (i : Inv B A s) : Inv B A.in1 s := ⟨i.good, i.gens, i.os, i.fr⟩
theorem Inv.of_in1 {A : Around} {s : Shared} (i : Inv B A.in1 s) : Inv B A s := ⟨i.good, i.gens, i.os, i.fr⟩
theorem Inv.deeper {A : Around} {s : Shared} {V₀ : Addr → Prop} (i : Inv B A s) (eo : EnvOk K env) (st : Stm B V₀ W s.heap env Γ) : Inv B (A.deeper env) s := by
  refine byEA (i.fr) fun l e hl => ?_
  refine ⟨i.good, i.gens, i.os, env :: l, ?_, fun env' he => ?_⟩
  · show A.frames.map (env :: ·) = some (env :: l)
    rw [e]; rfl
  · rcases List.mem_cons.mp he with rfl | he
    · refine byAEEEAAA (st.loc) fun wl o es ep h1 h2 h3 _ => ?_
      exact ⟨by rw [eo.fn]; decide, env'.locals, o, es, ep, st.frame, st.hi _ wl, h1, h2, h3⟩
    · exact hl env' he
theorem Inv.shallow {A : Around} {s : Shared} (i : Inv B (A.deeper env) s) : Inv B A s := by
  refine byEA (i.fr) fun l e hl => ?_
  have e' : A.frames.map (env :: ·) = some l := e
  refine byEA (Option.map_eq_some_iff.mp e') fun l' e1 e2 => ?_
  exact ⟨i.good, i.gens, i.os, l', e1, fun env' he => hl env' (e2 ▸ List.mem_cons_of_mem _ he)⟩
theorem Room.deeper {A : Around} (r : Room (k + 1) A) (env : Env) : Room k (A.deeper env) := by
  obtain ⟨a, b, c⟩ := r
  refine ⟨?_, ?_, fun _ => c (Nat.succ_pos _)⟩
  · show A.depth + 1 + k < 1000
    omega
  · show A.units + 3 + 40 * k + 100 < 9900
    omega
theorem Room.in1 {A : Around} (r : Room (k + 1) A) : Room k A.in1 := by
  obtain ⟨a, b, c⟩ := r
  refine ⟨?_, ?_, fun _ => c (Nat.succ_pos _)⟩
  · show A.depth + k < 1000
    omega
  · show A.units + 1 + 40 * k + 100 < 9900
    omega
noncomputable def Out.val : Out → D
  | .ret d => d
  | _ => .none
theorem Calls.of (O : B.Ok) {name : Str} {params : Arguments} {body : List Stmt} {scope : Scope} {ds ds' : List D} {xs : List Str} {o : Out} {Γ' : G} (F : FnAt B name params body scope) (hb : Binds B name params body scope ds xs ds') (hbrk : o ≠ .brk)
    (y : Ex B k (fun y => scope.names.lookup y) (putAll [] xs ds') body o Γ') (hl : xs.length = ds'.length := by rfl) (hx : ∀ x ∈ xs, scope.names.lookup x = some .local ∨ scope.names.lookup x = some .cell := by decide)
    (hk : scope.kind = .function := by rfl) (hco : scope.isCoroutine = false := by rfl) (hgen : scope.isGenerator = false := by rfl) : Calls B (k + 1) name ds o.val := fun A V s vs Q E rm i dm ls h => by
  (refine byEE (F) fun a pm hr3 => ?_; (try clear F); refine byEEA (hr3) fun cd doc hm hh => ?_; (try clear hr3))
  refine ⟨a, hm, wpAny_call ?_⟩
  (refine byA (hh _ i.good) fun hp4 hcd => ?_; obtain ⟨ob, hob, hod⟩ := hp4)
  refine codeAny_call_function (body := body) (fd := docDef name params body scope pm cd doc) (prog := B.prog) (w := B.w) (by have := rm.depth; show A.depth < 1000; omega) hob hod hco hgen rfl hcd ?_
  refine hb pm cd doc A.in1 V s vs _ _ i.in1 dm ls fun vs' s₁ i₁ k₁ l₁ => ?_
  refine fn_frame O hk i₁ (fun b hb' => let ⟨o', e, n⟩ := dm b hb'; (k₁ b o' e).q.ex n) l₁ hl hx fun env s₂ W he i₂ k₂ wn eo st => ⟨O.nolimit _ i₂.good, ?_⟩
  have i₃ : Inv B (A.deeper env) s₂ := Inv.deeper i₂.of_in1 eo st
  refine codeAny_func (prog := B.prog) (w := B.w) (y.run (A.deeper env) env V W s₂ _ _ (rm.deeper env) eo i₃ st fun fl s₄ W₄ i₄ d₄ e₄ st₄ ou => ?_)
  have kk : Kp s.heap s₄.heap := (k₁.trans k₂).trans_off e₄.kp fun b o e q => by
    cases e1 : s₁.heap.get? b with
    | none => refine byE ((k₁ b o e).ex) fun _ z => ?_; rw [e1] at z; cases z
    | some _ => rw [wn b q] at e1; cases e1
  cases o with
  | next =>
    obtain rfl : fl = .next := ou
    exact h .none s₄ i₄.shallow kk rfl
  | brk => exact absurd rfl hbrk
  | ret d =>
    (refine byEA (ou) fun v hq5 lv => ?_; (try clear ou); subst hq5)
    exact h v s₄ i₄.shallow kk (lv.mono fun b o nb e _ => ⟨fun q => nb (.inl q), e⟩)
end
end Jv
namespace Jv
open PySem PySem.W PySem.Calls PyProof.Rows
section
variable {B : Base} {k : Nat} {K : Kinds} {Γ Γ' : G} {V W : Addr → Prop} {h h' : Heap} {env : Env} {x : Str}
noncomputable def BltAt (B : Base) (x : Str) (v : Value) : Prop := B.mg x = none ∧ bootBuiltins x = some v ∧ x ≠ "__name__"
theorem glob_blt (O : B.Ok) {A : Around} {x : Str} {v : Value} {p : Pos} {s : Shared} {Q : Value → Shared → Prop} {E : Value → Shared → Prop} (b : BltAt B x v) (hK : K x = some .globalImplicit) (eo : EnvOk K env) (i : Inv B A s) (h : Q v s) (hd : (x == ("__debug__" : Str)) = false := by decide) :
    wpAny B.M A (eval (.Name x p) env) Q E s := by
  refine Name_function_global eo.fn ((eo.kind x).trans hK) (loadGlobal_builtin (mg := B.mg) (mb := B.mb) ?_ b.1 ?_ ((O.blt x b.2.2).trans b.2.1) h) hd
  · rw [eo.glob]; exact O.g _ i.good
  · rw [eo.blt]; exact O.b _ i.good
theorem glob_fn (O : B.Ok) {A : Around} {x : Str} {v : Value} {p : Pos} {s : Shared} {Q : Value → Shared → Prop} {E : Value → Shared → Prop} (b : B.mg x = some v) (hK : K x = some .globalImplicit) (eo : EnvOk K env) (i : Inv B A s) (h : Q v s) (hd : (x == ("__debug__" : Str)) = false := by decide) :
    wpAny B.M A (eval (.Name x p) env) Q E s := by
  refine Name_function_global eo.fn ((eo.kind x).trans hK) (loadGlobal_global (mg := B.mg) ?_ b h) hd
  rw [eo.glob]; exact O.g _ i.good
noncomputable def LaysB (B : Base) (V : Addr → Prop) (h : Heap) : List D → List Value → Prop
  | [], vs => vs = []
  | d :: l, vs => ∃ v r, vs = v :: r ∧ LayB B V h d v ∧ LaysB B V h l r
structure EvLB (B : Base) (k : Nat) (K : Kinds) (Γ : G) (es : List Expr) (ds : List D) : Prop where
  run : ∀ (p : Pos) (A : Around) (env : Env) (V : Addr → Prop) (s : Shared) (Q : List Value → Shared → Prop) (E : Value → Shared → Prop),
  Room k A → EnvOk K env → Inv B A s → EnvR B V s.heap env Γ →
  (∀ vs s', Inv B A s' → Kp s.heap s'.heap → LaysB B V s'.heap ds vs → Q vs s') → wpAny B.M A (spliced (backTo p (starEach es env))) Q E s
theorem EvLB.nil : EvLB B k K Γ [] [] := .mk fun p A env V s Q E rm o i g h => by
  rw [starEach_nil]; exact Calls.spliced_nil (h [] s i (.refl _) rfl)
theorem EvLB.cons {e : Expr} {es : List Expr} {d : D} {ds : List D} (x : EvB B k K Γ e d) (y : EvLB B k K Γ es ds) (hn : notStar e = true := by rfl) : EvLB B k K Γ (e :: es) (d :: ds) := .mk fun p A env V s Q E rm o i g h => by
  rw [starEach_cons hn]
  show wpAny _ _ (spliced ((false, eval e env) :: backTo p (starEach es env))) Q E s
  exact Calls.spliced_cons (x.run A env V s _ E rm o i g fun v s₁ i₁ k₁ l₁ => y.run p A env V s₁ _ E rm o i₁ (g.kp k₁) fun vs s₂ i₂ k₂ l₂ => h (v :: vs) s₂ i₂ (k₁.trans k₂) ⟨v, vs, rfl, l₁.kp k₂, l₂⟩)
theorem starEach_plain : ∀ (es : List Expr) (env : Env) (p : Pos), noStars es = true → (backTo p (starEach es env)).any (·.1) = false
  | [], env, p, _ => rfl
  | e :: r, env, p, h => by
    simp only [noStars, Bool.and_eq_true] at h
    rw [starEach_cons h.1]
    show (false || (backTo p (starEach r env)).any (·.1)) = false
    rw [starEach_plain r env p h.2]; rfl
theorem evalArgs_list {M : Model} {A : Around} {f : Value} {es : List Expr} {p : Pos} {s : Shared} {Q : Args → Shared → Prop} {E : Value → Shared → Prop} (hs : noStars es = true) (h : wpAny M A (spliced (backTo p (starEach es env))) (fun vs s' => Q ⟨vs, []⟩ s') E s) :
    wpAny M A (evalArgs f true (backTo p (starEach es env)) []) Q E s := by
  cases es with
  | nil =>
    unfold evalArgs
    show wpAny M A (spliced (backTo p (starEach [] env)) >>= _) Q E s
    refine wpAny_bind (wpAny_mono h (fun vs s' h' => ?_) fun _ _ x => x)
    refine wpAny_holding ?_
    exact wpAny_bind (wpAny_pure (wpAny_bind (wpAny_pure (wpAny_pure h'))))
  | cons e r =>
    simp only [noStars, Bool.and_eq_true] at hs
    rw [starEach_cons hs.1] at h ⊢
    exact evalArgs_plain h
theorem Ev.call (O : B.Ok) {f : Str} {p p' : Pos} {args : List Expr} {ds : List D} {d : D} (hK : K f = some .globalImplicit) (c : Calls B k f ds d) (F : ∃ params body scope, FnAt B f params body scope) (y : EvL B k K Γ args ds) (hs : noStars args = true := by rfl) (hd : (f == ("__debug__" : Str)) = false := by decide) :
    Ev B k K Γ (.Call (.Name f p) args [] p') d := .mk fun A env V s Q E rm eo i g h => by
  (refine byEE (F) fun params body hr1 => ?_; (try clear F); refine byEE (hr1) fun scope a hr2 => ?_; (try clear hr1); refine byEE (hr2) fun pm cd hr3 => ?_; (try clear hr2); refine byEA (hr3) fun doc hm hh => ?_; (try clear hr3))
  refine Call_ (glob_fn O hm hK eo i ?_ hd)
  (refine byA (hh _ i.good) fun hp4 _ => ?_; obtain ⟨o, ho, hod⟩ := hp4)
  unfold callWith
  refine wpAny_bind (wpAny_holding (evalArgs_list hs (y.run p' A env V s _ E rm eo i g fun vs s₁ i₁ k₁ l₁ => ?_)))
  refine wpAny_bind (wpAny_standAt ?_)
  (refine byA (hh _ i₁.good) fun hp5 _ => ?_; obtain ⟨o', ho', hod'⟩ := hp5)
  rw [starEach_plain args env p' hs]
  simp only [List.any_nil, Bool.or_false]
  refine wpAny_bind (m := keeperOf (.ref a)) ?_
  unfold keeperOf
  refine wpAny_bind (wpAny_load ho' ?_)
  rw [hod']
  refine wpAny_pure ?_
  refine byEA (c A V s₁ vs Q E rm i₁ (fun b hb => (g.kp k₁).domP b hb) l₁ fun v s₂ i₂ k₂ l₂ => h v s₂ i₂ (k₁.trans k₂) l₂) fun a' hm' hc => ?_
  rw [hm] at hm'; cases hm'
  have tail : ∀ {t : Sem Value}, wpAny B.M A t Q E s₁ → wpAny B.M A (t >>= fun r => holding [r] point >>= fun _ => pure r) Q E s₁ :=
    fun ht => wpAny_bind (wpAny_mono ht (fun r s₂ hr => wpAny_bind (wpAny_holding (wpAny_point (wpAny_pure hr)))) fun _ _ x => x)
  dsimp only [List.nil_append]
  split
  · exact tail hc
  · exact tail (wpAny_keep hc)
noncomputable def BltR (B : Base) (k : Nat) (f : Value) (ds : List D) (d : D) : Prop := ∀ (A : Around) (V : Addr → Prop) (s : Shared) (vs : List Value) (Q : Value → Shared → Prop) (E : Value → Shared → Prop),
  Room k A → Inv B A s → (∀ b, V b → ∃ o, s.heap.get? b = some o ∧ ¬ IsPriv o) → LaysB B V s.heap ds vs → (∀ v s', Inv B A s' → Kp s.heap s'.heap → Lay B V s'.heap d v → Q v s') → wpAny B.M A (call f vs) Q E s
noncomputable def BltF (B : Base) (k : Nat) (f : Value) (ds : List D) (d : D) : Prop := ∀ (A : Around) (V : Addr → Prop) (s : Shared) (vs : List Value) (Q : Value → Shared → Prop) (E : Value → Shared → Prop),
  Room k A → Inv B A s → (∀ b, V b → ∃ o, s.heap.get? b = some o ∧ ¬ IsPriv o) → LaysB B V s.heap ds vs → (∀ a s', Inv B A s' → Kp s.heap s'.heap → s.heap.get? a = none → B.n₀ ≤ a → Content B (fun b => V b ∨ b = a) s'.heap d a → Q (.ref a) s') → wpAny B.M A (call f vs) Q E s
noncomputable def isBlt : Value → Bool
  | .builtin _ => true
  | .type _ => true
  | _ => false
theorem callWith_blt {M : Model} {A : Around} {f : Value} {first : List Value} {es : List Expr} {p : Pos} {s : Shared} {Q : Value → Shared → Prop} {E : Value → Shared → Prop} (hf : isBlt f = true) (hs : noStars es = true)
    (h : wpAny M A (spliced (backTo p (starEach es env))) (fun vs s' => wpAny M A (call f (first ++ vs)) Q E s') E s) : wpAny M A (callWith p f first (backTo p (starEach es env)) []) Q E s := by
  cases f with
  | builtin id => exact Calls.callWith_builtin (starEach_plain es env p hs) (evalArgs_list hs h)
  | type T => exact PyProof.Rows.callWith_type (starEach_plain es env p hs) (evalArgs_list hs h)
  | _ => cases hf
theorem Ev.blt (O : B.Ok) {x : Str} {f : Value} {p p' : Pos} {args : List Expr} {ds : List D} {d : D} (b : BltAt B x f) (hK : K x = some .globalImplicit) (y : EvLB B k K Γ args ds) (c : BltR B k f ds d) (hf : isBlt f = true := by rfl) (hs : noStars args = true := by rfl) (hd : (x == ("__debug__" : Str)) = false := by decide) :
    Ev B k K Γ (.Call (.Name x p) args [] p') d := .mk fun A env V s Q E rm eo i g h =>
  Call_ (glob_blt O b hK eo i (callWith_blt hf hs (y.run p' A env V s _ E rm eo i g fun vs s₁ i₁ k₁ l₁ => c A V s₁ vs Q E rm i₁ (fun b hb => (g.kp k₁).domP b hb) l₁ fun v s₂ i₂ k₂ l₂ => h v s₂ i₂ (k₁.trans k₂) l₂)) hd)
theorem EvF.blt (O : B.Ok) {x : Str} {f : Value} {p p' : Pos} {args : List Expr} {ds : List D} {d : D} (b : BltAt B x f) (hK : K x = some .globalImplicit) (y : EvLB B k K Γ args ds) (c : BltF B k f ds d) (hf : isBlt f = true := by rfl) (hs : noStars args = true := by rfl) (hd : (x == ("__debug__" : Str)) = false := by decide) :
    EvF B k K Γ (.Call (.Name x p) args [] p') d := .mk fun A env V s Q E rm eo i g h =>
  Call_ (glob_blt O b hK eo i (callWith_blt hf hs (y.run p' A env V s _ E rm eo i g fun vs s₁ i₁ k₁ l₁ => c A V s₁ vs Q E rm i₁ (fun b hb => (g.kp k₁).domP b hb) l₁ fun a s₂ i₂ k₂ n₂ lo c₂ => h a s₂ i₂ (k₁.trans k₂) (by
    cases e : s.heap.get? a with
    | none => rfl
    | some o => refine byE ((k₁ _ _ e).ex) fun o' e' => ?_; rw [n₂] at e'; cases e') lo c₂)) hd)
noncomputable def OfType (B : Base) (T : String) (d : D) : Prop := ∀ (V : Addr → Prop) (s : Shared) (v : Value), LayB B V s.heap d v → s.TypeIs v T ∧ ∀ a, v = .ref a → ∃ ob, s.heap.get? a = some ob ∧ ob.dict = none
structure Meth (T : String) (name : Str) (id : String) : Prop where
  plain : PlainAttrs T
  slot : PySem.Slot T name id
  ty : typeOf (.builtin id) = pure (.type "method_descriptor")
theorem OfType.str {x : Str} : OfType B "str" (.str x) := fun V s v l => by
  (refine byE (l.asStr) fun t hq6 => ?_; subst hq6)
  exact ⟨rfl, fun a e => nomatch e⟩
theorem OfType.list {l : List D} : OfType B "list" (.list l) := fun V s v y => by
  (refine byEEA (y.asList) fun a items hq7 hr8 => ?_; subst hq7; refine byA (hr8) fun hp9 _ => ?_; (try clear hr8); obtain ⟨n, ho⟩ := hp9)
  exact ⟨⟨_, ho, rfl⟩, fun a' e => by cases e; exact ⟨_, ho, rfl⟩⟩
theorem meth_core {A : Around} {o : Expr} {name : Str} {ap p : Pos} {args : List Expr} {T id : String} {d₀ : D} {ds : List D} {s : Shared} {V : Addr → Prop} {Q : Value → Shared → Prop} {E : Value → Shared → Prop}
    (x : EvB B k K Γ o d₀) (y : EvLB B k K Γ args ds) (m : Meth T name id) (t : OfType B T d₀) (hl : (ap.endLine == p.line) = true) (hb : ∀ env, attributeBase o name env (eval o env) = eval o env) (hs : noStars args = true) (hn : args.length < 30)
    (rm : Room k A) (eo : EnvOk K env) (i : Inv B A s) (g : EnvR B V s.heap env Γ)
    (h : ∀ vs s', Inv B A s' → Kp s.heap s'.heap → LaysB B V s'.heap (d₀ :: ds) vs → wpAny B.M A (call (.builtin id) vs) Q E s') :
    wpAny B.M A (eval (.Call (.Attribute o name ap) args [] p) env) Q E s := by
  have len : (backTo p (starEach args env)).all (fun x => !x.1) = true := by
    have := starEach_plain args env p hs
    rw [List.all_eq_true]
    intro z hz
    have h2 := List.any_eq_false.mp this z hz
    simpa using h2
  refine wpAny_Call_method_lateS (hb env) (by rw [len]; simp [backToKw, keywordEach]; exact hn) hl (x.run A env V s _ E rm eo i g fun v s₁ i₁ k₁ l₁ => ?_)
  refine byA (t V s₁ v l₁) fun h1 h2 => ?_
  refine ⟨T, id, m.plain, m.slot, m.ty, h1, h2, ?_⟩
  exact callWith_blt rfl hs (y.run p A env V s₁ _ E rm eo i₁ (g.kp k₁) fun vs s₂ i₂ k₂ l₂ => h (v :: vs) s₂ i₂ (k₁.trans k₂) ⟨v, vs, rfl, l₁.kp k₂, l₂⟩)
theorem Ev.meth {o : Expr} {name : Str} {ap p : Pos} {args : List Expr} {T id : String} {d₀ : D} {ds : List D} {d : D} (x : EvB B k K Γ o d₀) (y : EvLB B k K Γ args ds) (m : Meth T name id) (t : OfType B T d₀) (c : BltR B k (.builtin id) (d₀ :: ds) d)
    (hl : (ap.endLine == p.line) = true := by rfl) (hb : ∀ env, attributeBase o name env (eval o env) = eval o env := by intro _; rfl) (hs : noStars args = true := by rfl) (hn : args.length < 30 := by decide) : Ev B k K Γ (.Call (.Attribute o name ap) args [] p) d := .mk fun A env V s Q E rm eo i g h =>
  meth_core x y m t hl hb hs hn rm eo i g fun vs s₁ i₁ k₁ l₁ => c A V s₁ vs Q E rm i₁ (fun b hb => (g.kp k₁).domP b hb) l₁ fun v s₂ i₂ k₂ l₂ => h v s₂ i₂ (k₁.trans k₂) l₂
theorem EvF.meth {o : Expr} {name : Str} {ap p : Pos} {args : List Expr} {T id : String} {d₀ : D} {ds : List D} {d : D} (x : EvB B k K Γ o d₀) (y : EvLB B k K Γ args ds) (m : Meth T name id) (t : OfType B T d₀) (c : BltF B k (.builtin id) (d₀ :: ds) d)
    (hl : (ap.endLine == p.line) = true := by rfl) (hb : ∀ env, attributeBase o name env (eval o env) = eval o env := by intro _; rfl) (hs : noStars args = true := by rfl) (hn : args.length < 30 := by decide) : EvF B k K Γ (.Call (.Attribute o name ap) args [] p) d := .mk fun A env V s Q E rm eo i g h =>
  meth_core x y m t hl hb hs hn rm eo i g fun vs s₁ i₁ k₁ l₁ => c A V s₁ vs Q E rm i₁ (fun b hb => (g.kp k₁).domP b hb) l₁ fun a s₂ i₂ k₂ n₂ lo c₂ => h a s₂ i₂ (k₁.trans k₂) (by
    cases e : s.heap.get? a with
    | none => rfl
    | some o => refine byE ((k₁ _ _ e).ex) fun o' e' => ?_; rw [n₂] at e'; cases e') lo c₂
end
end Jv
namespace Jv
open PySem PySem.W PySem.Calls PyProof.Rows
noncomputable def clip (v : Option Int) (d : Nat) (n : Nat) : Nat := match v with
  | none => d
  | some i => (max 0 (min (if i < 0 then i + n else i) n)).toNat
noncomputable def cut {α : Type} (l : List α) (lo hi : Option Int) : List α := (l.take (clip hi l.length l.length)).drop (clip lo 0 l.length)
theorem filterMap_range {α : Type} (l : List α) : ∀ (k a : Nat), a + k ≤ l.length → ((List.range k).map fun i => a + i).filterMap (l[·]?) = (l.take (a + k)).drop a
  | 0, a, h => by simp [List.drop_take]
  | k + 1, a, h => by
    rw [List.range_succ, List.map_append, List.filterMap_append, filterMap_range l k a (by omega)]
    have e : l[a + k]? = some (l[a + k]'(by omega)) := List.getElem?_eq_getElem (by omega)
    simp only [List.map_cons, List.map_nil, List.filterMap_cons, e, List.filterMap_nil]
    rw [show a + (k + 1) = (a + k) + 1 by omega, List.take_succ, e, List.drop_append_of_le_length (by simp; omega)]
    rfl
theorem clip_le (v : Option Int) (d n : Nat) (h : d ≤ n) : clip v d n ≤ n := by
  unfold clip
  cases v with
  | none => exact h
  | some i => exact Int.toNat_le.mpr (Int.max_le.mpr ⟨Int.natCast_nonneg _, Int.min_le_right _ _⟩)
theorem sliceRange_one {α : Type} (l : List α) (a b : Nat) (hb : b ≤ l.length) : (sliceRange (a : Int) (b : Int) 1).filterMap (l[·]?) = (l.take b).drop a := by
  unfold sliceRange
  simp only [Int.one_pos, gt_iff_lt, if_true]
  by_cases h : a < b
  · rw [if_pos (Int.ofNat_lt.mpr h), Int.add_sub_cancel, Int.ediv_one, Int.toNat_sub]
    have e2 : ((List.range (b - a)).map fun (k : Nat) => ((a : Int) + 1 * (k : Int)).toNat) = (List.range (b - a)).map fun i => a + i := List.map_congr_left fun k _ => by rw [Int.one_mul]; rfl
    have e3 : a + (b - a) = b := Nat.add_sub_cancel' (Nat.le_of_lt h)
    rw [e2, filterMap_range l (b - a) a (by rw [e3]; exact hb), e3]
  · rw [if_neg fun q => h (Int.ofNat_lt.mp q)]
    exact (List.drop_eq_nil_of_le (Nat.le_trans (List.length_take_le _ _) (Nat.not_lt.mp h))).symm
theorem clip_lo (lo : Option Int) (n : Nat) : (match lo with | none => (0 : Int) | some i => max 0 (min (if i < 0 then i + n else i) n)) = ((clip lo 0 n : Nat) : Int) := by
  unfold clip
  cases lo with
  | none => rfl
  | some i => exact (Int.toNat_of_nonneg (Int.le_max_left _ _)).symm
theorem clip_hi (hi : Option Int) (n : Nat) : (match hi with | none => (n : Int) | some i => max 0 (min (if i < 0 then i + n else i) n)) = ((clip hi n n : Nat) : Int) := by
  unfold clip
  cases hi with
  | none => rfl
  | some i => exact (Int.toNat_of_nonneg (Int.le_max_left _ _)).symm
theorem clip_nat (i d n : Nat) : clip (some (i : Int)) d n = min i n := by
  show (max 0 (min (if (i : Int) < 0 then (i : Int) + n else i) (n : Int))).toNat = _
  rw [if_neg (Int.not_lt.mpr (Int.natCast_nonneg _)), Int.max_eq_right (Int.le_min.mpr ⟨Int.natCast_nonneg _, Int.natCast_nonneg _⟩)]
  rcases Nat.le_total i n with h | h
  · rw [Int.min_eq_left (Int.ofNat_le.mpr h), Nat.min_eq_left h]; rfl
  · rw [Int.min_eq_right (Int.ofNat_le.mpr h), Nat.min_eq_right h]; rfl
theorem cut_drop {α : Type} (l : List α) (i : Nat) : cut l (some (i : Int)) none = l.drop i := by
  unfold cut
  rw [clip_nat]
  show (l.take l.length).drop _ = _
  rw [List.take_length]
  rcases Nat.le_total i l.length with h | h
  · rw [Nat.min_eq_left h]
  · rw [Nat.min_eq_right h, List.drop_length, List.drop_of_length_le h]
theorem cut_takes {α : Type} (l : List α) (i : Nat) : cut l none (some (i : Int)) = l.take i := by
  unfold cut
  rw [clip_nat]
  show (l.take _).drop 0 = _
  rw [List.drop_zero]
  rcases Nat.le_total i l.length with h | h
  · rw [Nat.min_eq_left h]
  · rw [Nat.min_eq_right h, List.take_length, List.take_of_length_le h]
theorem slicePick_cut (items : Array Value) (lo hi : Option Int) : (slicePick items lo hi none).toList = cut items.toList lo hi := by
  unfold slicePick cut
  have e : sliceBounds lo hi none items.size = (((clip lo 0 items.size : Nat) : Int), ((clip hi items.size items.size : Nat) : Int), 1) := by
    rw [← clip_lo, ← clip_hi]
    unfold sliceBounds
    cases lo <;> cases hi <;> rfl
  rw [e]
  simp only [List.toList_toArray]
  have := sliceRange_one items.toList (clip lo 0 items.size) (clip hi items.size items.size) (by simp; exact clip_le _ _ _ (Nat.le_refl _))
  simp only [Array.getElem?_toList] at this
  rw [this]
  simp
end Jv
namespace Jv
open PySem PySem.W PySem.Calls PyProof.Rows
noncomputable def notSlice : Expr → Bool
  | .Slice .. => false
  | _ => true
section
variable {B : Base} {k : Nat} {K : Kinds} {Γ Γ' : G} {V W : Addr → Prop} {h h' : Heap} {env : Env} {x : Str}
theorem sub_tail {prog : Program} {w : World} {A : Around} {E : Value → Shared → Prop} {s : Shared} {value slice : Expr} {o i : Value} {T id : String} {Q : Value → Shared → Prop} (hT : s.TypeIs o T)
    (hl : typeLookup (.type T) "__getitem__" = pure (some (.builtin id))) (h : wpAny (model prog w) A (getItem o i) Q E s)
    {ops : List Value} (hs : subscripted slice false o i = operate ops (getItem o i)) :
    wpAny (model prog w) A (subscriptTail value slice o i) Q E s := by
  unfold subscriptTail
  refine wpAny_bind ?_
  rw [getitemInPython_of_ne hT.not_modules]
  refine wpAny_bind (wpAny_specialOf hT hl ?_)
  have fin : wpAny (model prog w) A (subscripted slice false o i) (fun r s₃ => wpAny (model prog w) A (letTemporaryGo value o r >>= fun _ => pure r) Q E s₃) E s := by
    rw [hs]
    exact wpAny_operating (wpAny_mono h (fun r s₃ h₃ => wpAny_bind (wpAny_letTemporaryGo (wpAny_pure h₃))) fun _ _ x => x)
  first
    | exact wpAny_pure (wpAny_bind fin)
    | exact wpAny_bind (wpAny_pure (wpAny_bind fin))
    | exact wpAny_bind fin
noncomputable def SubR (B : Base) (k : Nat) (d₁ d₂ d : D) : Prop := ∀ (A : Around) (V : Addr → Prop) (s : Shared) (o i : Value) (Q : Value → Shared → Prop) (E : Value → Shared → Prop),
  Room k A → Inv B A s → (∀ b, V b → ∃ o, s.heap.get? b = some o) → LayB B V s.heap d₁ o → LayB B V s.heap d₂ i → (∀ v s', Inv B A s' → Kp s.heap s'.heap → Lay B V s'.heap d v → Q v s') →
  ∃ T id, s.TypeIs o T ∧ typeLookup (.type T) "__getitem__" = pure (some (.builtin id)) ∧ wpAny B.M A (getItem o i) Q E s
theorem subscripted_plain {slice : Expr} (hs : notSlice slice = true) (o i : Value) : subscripted slice false o i = operate [o, i] (getItem o i) := by
  cases slice <;> first | rfl | exact nomatch (show false = true from hs)
theorem Ev.sub {value slice : Expr} {p : Pos} {d₁ d₂ d : D} (x : EvB B k K Γ value d₁) (y : EvB B k K Γ slice d₂) (z : SubR B k d₁ d₂ d) (hs : notSlice slice = true := by rfl) : Ev B k K Γ (.Subscript value slice p) d :=
  .mk fun A env V s Q E rm eo i g h => Subscript_ (x.run A env V s _ E rm eo i g fun v₁ s₁ i₁ k₁ l₁ => y.run A env V s₁ _ E rm eo i₁ (g.kp k₁) fun v₂ s₂ i₂ k₂ l₂ => by
    refine byEEAA (z A V s₂ v₁ v₂ Q E rm i₂ ((g.kp k₁).kp k₂).dom (l₁.kp k₂) l₂ fun v s₃ i₃ k₃ l₃ => h v s₃ i₃ ((k₁.trans k₂).trans k₃) l₃) fun T id hT hl hg => ?_
    exact sub_tail hT hl hg (subscripted_plain hs v₁ v₂))
theorem seqIndex_pos {n : Int} {z : Nat} (h0 : 0 ≤ n) (h : n.toNat < z) : seqIndex? n z = some n.toNat := by
  have e : ¬ (n < 0) := by omega
  have e' : n < z := by omega
  simp [seqIndex?, e, h0, e']
theorem SubR.list {l : List D} {n : Int} {d : D} (h0 : 0 ≤ n) (hz : n < 2 ^ 63) (hd : l[n.toNat]? = some d) : SubR B k (.list l) (.int n) d := fun A V s o i Q E rm inv dm x y h => by
  (refine byEEA (x.asList) fun a items hq1 hr2 => ?_; subst hq1; refine byA (hr2) fun il ls => ?_; (try clear hr2))
  (refine byE (y.asInt) fun t hq3 => ?_; subst hq3)
  refine byEA (ls.get hd) fun v hv lv => ?_
  exact ⟨"list", _, il.isList.typeIs, F.slot_list_getitem.lookup, wpAny_getItem_list (prog := B.prog) (w := B.w) il.isList h0 hz (by simpa using hv) (h v s inv (.refl _) lv)⟩
theorem SubR.listNeg {l : List D} {n : Int} {d : D} (h0 : n < 0) (hz : -(l.length : Int) ≤ n) (hz' : -2 ^ 63 ≤ n) (hd : l[(n + l.length).toNat]? = some d) : SubR B k (.list l) (.int n) d := fun A V s o i Q E rm inv dm x y h => by
  (refine byEEA (x.asList) fun a items hq4 hr5 => ?_; subst hq4; refine byA (hr5) fun il ls => ?_; (try clear hr5))
  (refine byE (y.asInt) fun t hq6 => ?_; subst hq6)
  refine byEA (ls.get hd) fun v hv lv => ?_
  have hsz : items.size = l.length := by rw [← ls.length]; simp
  exact ⟨"list", _, il.isList.typeIs, F.slot_list_getitem.lookup, wpAny_getItem_list_neg (prog := B.prog) (w := B.w) il.isList h0 (by rw [hsz]; exact hz) hz' (by rw [hsz]; simpa using hv) (h v s inv (.refl _) lv)⟩
theorem SubR.tup {l : List D} {n : Int} {d : D} (h0 : 0 ≤ n) (hz : n < 2 ^ 63) (hd : l[n.toNat]? = some d) : SubR B k (.tup l) (.int n) d := fun A V s o i Q E rm inv dm x y h => by
  (refine byEEA (x.asTup) fun a items hq7 hr8 => ?_; subst hq7; refine byA (hr8) fun il ls => ?_; (try clear hr8))
  (refine byE (y.asInt) fun t hq9 => ?_; subst hq9)
  refine byEA (ls.get hd) fun v hv lv => ?_
  have hsz : items.size = l.length := by rw [← ls.length]; simp
  have hn : n.toNat < l.length := by
    refine byE (List.getElem?_eq_some_iff.mp hd) fun q _ => ?_
    exact q
  refine ⟨"tuple", _, il.isTuple.typeIs, F.slot_tuple_getitem.lookup, PyProof.Rows.getItem_tuple (prog := B.prog) (w := B.w) (j := n.toNat) il.isTuple (by omega) hz ?_ (by simpa using hv) (h v s inv (.refl _) lv)⟩
  rw [hsz]
  exact seqIndex_pos h0 hn
theorem SubR.str {y : Str} {n : Int} {c : Nat} (h0 : 0 ≤ n) (hz : n < 2 ^ 63) (hd : y.cps[n.toNat]? = some c) : SubR B k (.str y) (.int n) (.str ⟨#[c]⟩) := fun A V s o i Q E rm inv dm x z h => by
  (refine byE (x.asStr) fun t hq10 => ?_; subst hq10)
  (refine byE (z.asInt) fun u hq11 => ?_; subst hq11)
  have hn : n.toNat < y.cps.size := by
    refine byE (Array.getElem?_eq_some_iff.mp hd) fun q _ => ?_
    exact q
  refine ⟨"str", _, rfl, F.slot_str_getitem.lookup, PyProof.Rows.getItem_str (prog := B.prog) (w := B.w) (by simp; omega) (c := c) ?_ (h _ _ (inv.tok _) (.refl _) ⟨_, rfl⟩)⟩
  rw [seqIndex_pos h0 (show n.toNat < y.length from hn)]
  exact hd
theorem EvF.list (O : B.Ok) {es : List Expr} {ds : List D} {p : Pos} (x : EvL B k K Γ es ds) (hz : ds.length ≤ sizeLine := by decide) : EvF B k K Γ (.List es p) (.list ds) := .mk fun A env V s Q E rm eo i g h =>
  wpAny_List (x.run p A env V s _ E rm eo i g fun vs s₁ i₁ k₁ l₁ => by
    refine ⟨by rw [l₁.length]; exact hz, ?_⟩
    have kp : ∀ b o, s₁.heap.get? b = some o → (s₁.heap.push { cls := .type "list", data := .seq vs.toArray }).get? b = some o := fun b o e => Heap.get?_push_of_some _ e
    have nz : ∀ b, s₁.heap.get? b = none → s.heap.get? b = none := fun b e => by
      cases q : s.heap.get? b with
      | none => rfl
      | some o => refine byE ((k₁ b o q).ex) fun o' e' => ?_; rw [e] at e'; cases e'
    refine h _ { s₁ with heap := s₁.heap.push { cls := .type "list", data := .seq vs.toArray } } (i₁.keep O (tk := s₁.toks) kp) (k₁.trans (.of kp)) (nz _ (none_size (Nat.le_refl _))) (O.size _ i₁.good) ⟨vs.toArray, ⟨_, Heap.get?_push_size _ rfl⟩, ?_⟩
    exact l₁.mono fun b o nb e _ => ⟨fun q => q.elim nb (fun z => by rw [z, none_size (Nat.le_refl _)] at e; cases e), kp b o e⟩)
theorem Ev.tup (O : B.Ok) {es : List Expr} {ds : List D} {n : Nat} {p : Pos} (x : EvL B k K Γ es ds) (hz : ds.length ≤ sizeLine := by decide) : Ev B k K Γ (.Tuple es n p) (.tup ds) := .mk fun A env V s Q E rm eo i g h =>
  wpAny_Tuple (x.run p A env V s _ E rm eo i g fun vs s₁ i₁ k₁ l₁ => by
    refine ⟨by rw [l₁.length]; exact hz, ?_⟩
    have kp : ∀ b o, s₁.heap.get? b = some o → (s₁.heap.push { cls := .type "tuple", data := .seq vs.toArray }).get? b = some o := fun b o e => Heap.get?_push_of_some _ e
    refine h _ { s₁ with heap := s₁.heap.push { cls := .type "tuple", data := .seq vs.toArray } } (i₁.keep O (tk := s₁.toks) kp) (k₁.trans (.of kp)) ?_
    simp only [Lay]
    refine ⟨_, rfl, fun q => ?_, vs.toArray, ⟨_, Heap.get?_push_size _ rfl⟩, ?_⟩
    · refine byE ((g.kp k₁).dom _ q) fun o e => ?_
      exact absurd (Heap.lt_size e) (Nat.lt_irrefl _)
    · exact l₁.kp (.of kp))
end
end Jv
namespace Jv
open PySem PySem.W PySem.Calls PyProof.Rows
section
variable {B : Base} {k : Nat} {K : Kinds} {Γ Γ' : G} {V W : Addr → Prop} {h h' : Heap} {env : Env} {x : Str} {A : Around} {s : Shared}
noncomputable def newSeq (s : Shared) (items : Array Value) : Shared := { s with heap := s.heap.push { cls := .type "list", data := .seq items } }
theorem fresh_of {b : Addr} (k : Kp h h') (e : h'.get? b = none) : h.get? b = none := by
  cases q : h.get? b with
  | none => rfl
  | some o => refine byE ((k b o q).ex) fun o' e' => ?_; rw [e] at e'; cases e'
theorem newList (O : B.Ok) (i : Inv B A s) {ds : List D} {items : Array Value} (l : Lays B V s.heap ds items.toList) :
    Inv B A (newSeq s items) ∧ Kp s.heap (newSeq s items).heap ∧ s.heap.get? s.heap.objs.size = none ∧ B.n₀ ≤ s.heap.objs.size ∧ Content B (fun b => V b ∨ b = s.heap.objs.size) (newSeq s items).heap (.list ds) s.heap.objs.size := by
  have kp : ∀ b o, s.heap.get? b = some o → (s.heap.push { cls := .type "list", data := .seq items }).get? b = some o := fun b o e => Heap.get?_push_of_some _ e
  refine ⟨i.keep O (tk := s.toks) kp, .of kp, none_size (Nat.le_refl _), O.size _ i.good, items, ⟨_, Heap.get?_push_size _ rfl⟩, ?_⟩
  exact l.mono fun b o nb e _ => ⟨fun q => q.elim nb (fun z => by rw [z, none_size (Nat.le_refl _)] at e; cases e), kp b o e⟩
theorem Lays.cut {l : List D} {vs : List Value} (x : Lays B V h l vs) (lo hi : Option Int) : Lays B V h (cut l lo hi) (cut vs lo hi) := by
  unfold Jv.cut
  rw [x.length]
  exact Lays.drop _ (Lays.take _ x)
theorem subT_slice {prog : Program} {w : World} {E : Value → Shared → Prop} {value : Expr} {o i : Value} {lo hi st : Option Expr} {p : Pos} {T id : String} {Q : Value → Shared → Prop} (hT : s.TypeIs o T)
    (hl : typeLookup (.type T) "__getitem__" = pure (some (.builtin id))) (h : wpAny (model prog w) A (getItem o i) Q E s) : wpAny (model prog w) A (subscriptTail value (.Slice lo hi st p) o i) Q E s := by
  cases st with
  | none => exact sub_tail hT hl h (ops := [i, o]) rfl
  | some e => exact sub_tail hT hl h (ops := [o, i]) rfl
inductive EvP (B : Base) (k : Nat) (K : Kinds) (Γ : G) : Option Expr → Option Int → Prop
  | none : EvP B k K Γ none none
  | some {e : Expr} {i : Int} (x : Ev B k K Γ e (.int i)) : EvP B k K Γ (some e) (some i)
theorem EvP.run {e : Option Expr} {o : Option Int} (x : EvP B k K Γ e o) {Q : Value → Shared → Prop} {E : Value → Shared → Prop} (rm : Room k A) (eo : EnvOk K env) (i : Inv B A s) (g : EnvR B V s.heap env Γ)
    (h : ∀ (q : Option (Int × Tok)) s', q.map (·.1) = o → Inv B A s' → Kp s.heap s'.heap → Q (partValue q) s') : wpAny B.M A (evalPart e env) Q E s := by
  cases x with
  | none => rw [evalPart_none]; exact wpAny_pure (h Option.none s rfl i (.refl _))
  | some x =>
    rw [evalPart_some]
    refine x.run A env V s Q E rm eo i g fun v s₁ i₁ k₁ l₁ => ?_
    simp only [Lay] at l₁
    (refine byE (l₁) fun t hq3 => ?_; (try clear l₁); subst hq3)
    exact h (Option.some (_, t)) s₁ rfl i₁ k₁
theorem isPart_of (q : Option (Int × Tok)) : IsPart (partValue q) (q.map (·.1)) := by
  cases q with
  | none => exact .none
  | some p => exact .int p.1 p.2
noncomputable def newSlice (s : Shared) (l u st : Value) : Shared := { s with heap := s.heap.push { cls := .type "slice", data := .fields #[l, u, st] } }
theorem EvF.slice (O : B.Ok) {value : Expr} {lo hi : Option Expr} {p q : Pos} {l : List D} {a b : Option Int} (x : EvB B k K Γ value (.list l)) (y : EvP B k K Γ lo a) (z : EvP B k K Γ hi b) (hz : l.length ≤ sizeLine) :
    EvF B k K Γ (.Subscript value (.Slice lo hi none p) q) (.list (cut l a b)) := .mk fun A env V s Q E rm eo i g h =>
  Subscript_ (x.run A env V s _ E rm eo i g fun v₁ s₁ i₁ k₁ l₁ => wpAny_Slice (y.run rm eo i₁ (g.kp k₁) fun pl s₂ e₂ i₂ k₂ => z.run rm eo i₂ ((g.kp k₁).kp k₂) fun pu s₃ e₃ i₃ k₃ => by
    rw [evalPart_none]
    apply wpAny_pure
    (refine byEEA (((l₁.kp k₂).kp k₃).asList) fun a items hq4 hr5 => ?_; subst hq4; refine byA (hr5) fun il ls => ?_; (try clear hr5))
    have kp : ∀ b o, s₃.heap.get? b = some o → (newSlice s₃ (partValue pl) (partValue pu) .none).heap.get? b = some o := fun b o e => Heap.get?_push_of_some _ e
    have i₄ : Inv B A (newSlice s₃ (partValue pl) (partValue pu) .none) := i₃.keep O (tk := s₃.toks) kp
    have l₄ := ls.kp (.of kp)
    have il₄ := il.isList.push { cls := .type "slice", data := .fields #[partValue pl, partValue pu, .none] }
    have k₄ : Kp s.heap (newSlice s₃ (partValue pl) (partValue pu) .none).heap := ((k₁.trans k₂).trans k₃).trans (.of kp)
    refine subT_slice (T := "list") (s := newSlice s₃ (partValue pl) (partValue pu) .none) il₄.typeIs F.slot_list_getitem.lookup (wpAny_getItem_list_slice (s := newSlice s₃ (partValue pl) (partValue pu) .none) il₄ (Heap.IsSliceOf.new ..) (isPart_of pl) (isPart_of pu) .none (by simp) ?_ (by rw [show items.size = l.length by rw [← ls.length]; simp]; exact hz))
    have ll : Lays B V (newSlice s₃ (partValue pl) (partValue pu) .none).heap (cut l (pl.map (·.1)) (pu.map (·.1))) (slicePick items (pl.map (·.1)) (pu.map (·.1)) none).toList := by
      rw [slicePick_cut]
      exact l₄.cut _ _
    rw [e₂, e₃] at ll ⊢
    refine byAAAA (newList O i₄ ll) fun i₅ k₅ f₅ n₅ c₅ => ?_
    exact h _ _ i₅ (k₄.trans k₅) (fresh_of k₄ f₅) n₅ c₅))
noncomputable def cutS (x : Str) (lo hi : Option Int) : Str := ⟨(cut x.cps.toList lo hi).toArray⟩
theorem txt_slice (x : Str) (lo hi : Option Int) : Txt.slice x lo hi = cutS x lo hi := by
  have e : Builtin.Str.strSliceIndices lo hi 1 x.length = sliceRange ((clip lo 0 x.length : Nat) : Int) ((clip hi x.length x.length : Nat) : Int) 1 := by
    rw [← clip_lo, ← clip_hi]
    unfold Builtin.Str.strSliceIndices
    cases lo <;> cases hi <;> rfl
  have hb : clip hi x.length x.length ≤ x.cps.toList.length := by rw [Array.length_toList]; exact clip_le hi _ _ (Nat.le_refl _)
  have f := sliceRange_one x.cps.toList (clip lo 0 x.length) (clip hi x.length x.length) hb
  unfold Txt.slice
  split
  · rename_i hc
    rw [e] at hc
    simp only [beq_self_eq_true, Bool.true_and, beq_iff_eq] at hc
    unfold cutS cut
    have hl : x.cps.toList.length = x.length := by simp [Str.length]
    rw [hl]
    have h1 : clip lo 0 x.length = 0 ∨ x.length = 0 := by
      unfold sliceRange at hc
      simp only [Int.one_pos, gt_iff_lt, if_true, List.length_map, List.length_range] at hc
      have := clip_le hi x.length x.length (Nat.le_refl _)
      split at hc <;> omega
    have h2 : clip hi x.length x.length = x.length ∨ x.length = 0 := by
      unfold sliceRange at hc
      simp only [Int.one_pos, gt_iff_lt, if_true, List.length_map, List.length_range] at hc
      have := clip_le hi x.length x.length (Nat.le_refl _)
      split at hc <;> omega
    have h3 : (x.cps.toList.take (clip hi x.length x.length)).drop (clip lo 0 x.length) = x.cps.toList := by
      by_cases hx : x.length = 0
      · have : x.cps.toList = [] := List.eq_nil_of_length_eq_zero (by rw [hl]; exact hx)
        rw [this]; simp
      · rw [h1.resolve_right hx, h2.resolve_right hx, ← hl, List.drop_zero, List.take_length]
    rw [h3]
  · rw [e]
    unfold cutS cut
    simp only [Array.getElem?_toList] at f
    rw [f]
    rfl
theorem cutS_le (x : Str) (lo hi : Option Int) : (cutS x lo hi).length ≤ x.length := by rw [← txt_slice]; exact Txt.slice_le x lo hi
theorem Ev.slice (O : B.Ok) {value : Expr} {lo hi : Option Expr} {p q : Pos} {l : Str} {a b : Option Int} (x : EvB B k K Γ value (.str l)) (y : EvP B k K Γ lo a) (z : EvP B k K Γ hi b) (hz : l.length ≤ sizeLine) :
    Ev B k K Γ (.Subscript value (.Slice lo hi none p) q) (.str (cutS l a b)) := .mk fun A env V s Q E rm eo i g h =>
  Subscript_ (x.run A env V s _ E rm eo i g fun v₁ s₁ i₁ k₁ l₁ => wpAny_Slice (y.run rm eo i₁ (g.kp k₁) fun pl s₂ e₂ i₂ k₂ => z.run rm eo i₂ ((g.kp k₁).kp k₂) fun pu s₃ e₃ i₃ k₃ => by
    rw [evalPart_none]
    apply wpAny_pure
    (refine byE (l₁.asStr) fun t hq9 => ?_; subst hq9)
    have kp : ∀ b o, s₃.heap.get? b = some o → (newSlice s₃ (partValue pl) (partValue pu) .none).heap.get? b = some o := fun b o e => Heap.get?_push_of_some _ e
    have i₄ : Inv B A (newSlice s₃ (partValue pl) (partValue pu) .none) := i₃.keep O (tk := s₃.toks) kp
    have k₄ : Kp s.heap (newSlice s₃ (partValue pl) (partValue pu) .none).heap := ((k₁.trans k₂).trans k₃).trans (.of kp)
    refine subT_slice (T := "str") (s := newSlice s₃ (partValue pl) (partValue pu) .none) rfl F.slot_str_getitem.lookup (wpAny_getItem_str_slice (s := newSlice s₃ (partValue pl) (partValue pu) .none) (l := pl) (u := pu) (st := none) ⟨_, Heap.get?_push_size _ rfl, rfl, rfl⟩ rfl (post_val_or_str ⟨?_, fun t' tk => ?_⟩))
    · exact Nat.le_trans (Txt.slice_le l _ _) hz
    · refine h _ _ (i₄.tok tk) k₄ ⟨t', ?_⟩
      show Value.str (Txt.slice l (pl.map (·.1)) (pu.map (·.1))) t' = _
      rw [txt_slice, e₂, e₃]))
end
end Jv
namespace Jv
open PySem PySem.W PySem.Calls PyProof.Rows
section
variable {B : Base} {k : Nat} {K : Kinds} {Γ Γ' : G} {V W : Addr → Prop} {h h' : Heap} {env : Env} {A : Around} {s : Shared}
noncomputable def dget (l : List (Str × D)) (x : Str) : Option D := (l.find? fun p => p.1 = x).map (·.2)
theorem LayB.asDict' {l : List (Str × D)} {v : Value} (x : LayB B V h (.dict l) v) : ∃ a, v = .ref a ∧ B.n₀ ≤ a ∧ ∃ kvs, h.DictOf (PySem.strKind B.prog B.w) a kvs ∧ Layd B V h l kvs := by
  rcases x with x | ⟨a, e, lo, kvs, r⟩
  · simp only [Lay] at x; (refine byEAAA (x) fun a e _ lo hr1 => ?_; (try clear x); refine byE (hr1) fun kvs r => ?_; (try clear hr1)); exact ⟨a, e, lo, kvs, r⟩
  · exact ⟨a, e, lo, kvs, r⟩
theorem Layd.keys : ∀ {l : List (Str × D)} {kvs : List (Str × Value)}, Layd B V h l kvs → kvs.map (·.1) = l.map (·.1)
  | [], kvs, x => by simp only [Layd] at x; subst x; rfl
  | (y, d) :: l, kvs, x => by simp only [Layd] at x; (refine byEEA (x) fun v r hq4 hr5 => ?_; (try clear x); subst hq4; refine byA (hr5) fun _ z => ?_; (try clear hr5)); simp [z.keys]
theorem Layd.get : ∀ {l : List (Str × D)} {kvs : List (Str × Value)} (x : Str), Layd B V h l kvs → (∀ d, dget l x = some d → ∃ v, valueAt kvs x = some v ∧ Lay B V h d v) ∧ (dget l x = none → valueAt kvs x = none)
  | [], kvs, x, q => by simp only [Layd] at q; subst q; exact ⟨fun d e => by simp [dget] at e, fun _ => rfl⟩
  | (y, d) :: l, kvs, x, q => by
    simp only [Layd] at q
    (refine byEEA (q) fun v r hq8 hr9 => ?_; (try clear q); subst hq8; refine byA (hr9) fun q1 q2 => ?_; (try clear hr9))
    have ih := q2.get x
    by_cases e : y = x
    · refine ⟨fun d' hd => ⟨v, ?_, ?_⟩, fun hn => ?_⟩
      · simp [valueAt, e]
      · simp [dget, e] at hd; subst hd; exact q1
      · simp [dget, e] at hn
    · have e1 : dget ((y, d) :: l) x = dget l x := by simp [dget, e]
      have e2 : valueAt ((y, v) :: r) x = valueAt r x := by simp [valueAt, e]
      rw [e1, e2]
      exact ih
theorem OfType.dict' {l : List (Str × D)} : OfType B "dict" (.dict l) := fun V s v y => by
  (refine byEA (y.asDict') fun a hq14 hr15 => ?_; subst hq14; refine byA (hr15) fun lo hr16 => ?_; (try clear hr15); refine byEA (hr16) fun kvs hd _ => ?_; (try clear hr16))
  exact ⟨hd.typeIs, hd.mapOf.noDict⟩
theorem sysNe (O : B.Ok) {a : Addr} (lo : B.n₀ ≤ a) : (a == sysModules) = false := by
  have := O.low
  exact beq_eq_false_iff_ne.mpr fun e => absurd this (by rw [← e]; exact Nat.not_lt.mpr lo)
theorem Meth.dget : Meth "dict" "get" "dict.get" := ⟨PySem.F.plainAttrs_dict, PySem.F.slot_dict_get, PySem.F.type_dict_get⟩
theorem LaysB.one {d : D} {vs : List Value} (x : LaysB B V h [d] vs) : ∃ v, vs = [v] ∧ LayB B V h d v := by
  (refine byEEA (x) fun v r hq21 hr22 => ?_; (try clear x); subst hq21; refine byA (hr22) fun a hq23 => ?_; (try clear hr22); subst hq23)
  exact ⟨v, rfl, a⟩
theorem LaysB.two {d e : D} {vs : List Value} (x : LaysB B V h [d, e] vs) : ∃ v w, vs = [v, w] ∧ LayB B V h d v ∧ LayB B V h e w := by
  (refine byEEA (x) fun v r hq24 hr25 => ?_; (try clear x); subst hq24; refine byA (hr25) fun a hr26 => ?_; (try clear hr25); refine byEEA (hr26) fun w r hq27 hr28 => ?_; (try clear hr26); subst hq27; refine byA (hr28) fun b hq29 => ?_; (try clear hr28); subst hq29)
  exact ⟨v, w, rfl, a, b⟩
theorem LaysB.three {d e f : D} {vs : List Value} (x : LaysB B V h [d, e, f] vs) : ∃ v w u, vs = [v, w, u] ∧ LayB B V h d v ∧ LayB B V h e w ∧ LayB B V h f u := by
  (refine byEEA (x) fun v r hq30 hr31 => ?_; (try clear x); subst hq30; refine byA (hr31) fun a hr32 => ?_; (try clear hr31); refine byEEA (hr32) fun w r hq33 hr34 => ?_; (try clear hr32); subst hq33; refine byA (hr34) fun b hr35 => ?_; (try clear hr34); refine byEEA (hr35) fun u r hq36 hr37 => ?_; (try clear hr35); subst hq36; refine byA (hr37) fun c hq38 => ?_; (try clear hr37); subst hq38)
  exact ⟨v, w, u, rfl, a, b, c⟩
theorem BltR.dget (O : B.Ok) {l : List (Str × D)} {x y : Str} : BltR B k (.builtin "dict.get") [.dict l, .str x, .str y] ((Jv.dget l x).getD (.str y)) := fun A V s vs Q E rm i dm ls h => by
  (refine byEE (ls.three) fun v w hr39 => ?_; refine byEA (hr39) fun u hq40 hr41 => ?_; (try clear hr39); subst hq40; refine byAA (hr41) fun a b c => ?_; (try clear hr41))
  (refine byEA (a.asDict') fun D hq42 hr43 => ?_; subst hq42; refine byA (hr43) fun lo hr44 => ?_; (try clear hr43); refine byEA (hr44) fun kvs hD ld => ?_; (try clear hr44))
  (refine byE (b.asStr) fun t hq45 => ?_; subst hq45)
  (refine byE (c.asStr) fun t' hq46 => ?_; subst hq46)
  refine call_meetsIn PySem.F.slot_dict_get hD.typeIs PySem.F.entry_dict_get (PySem.F.args_dict_get_3 _ _ _) (meets_dict_get_default (PySem.strKind B.prog B.w) D (PySem.strKind_is _ _ x t) (sysNe O lo) _) ⟨_, hD.mapOf, h _ _ (i.tok _) (.refl _) ?_⟩
  have z := ld.get x
  cases e : Jv.dget l x with
  | none => rw [z.2 e]; exact ⟨t', rfl⟩
  | some d => refine byEA (z.1 d e) fun v hv lv => ?_; rw [hv]; exact lv
noncomputable def EvD (B : Base) (k : Nat) (K : Kinds) (Γ : G) (ks : List (Option Expr)) (es : List Expr) (l : List (Str × D)) : Prop := ks.length = l.length ∧ es.length = l.length ∧ ks.all (·.isSome) = true ∧ ∀ (p : Pos) (A : Around) (env : Env) (V : Addr → Prop) (s : Shared) (Q : List (Value × Value) → Shared → Prop) (E : Value → Shared → Prop),
  Room k A → EnvOk K env → Inv B A s → EnvR B V s.heap env Γ →
  (∀ vs s', Inv B A s' → Kp s.heap s'.heap → allStrKeys vs = true → Layd B V s'.heap l (strPairs vs) → Q vs s') → wpAny B.M A (evalPairs (pairTrees ks es env p)) Q E s
theorem EvD.nil : EvD B k K Γ [] [] [] := ⟨rfl, rfl, rfl, fun p A env V s Q E rm eo i g h => pairTrees_nil_walk (h [] s i (.refl _) rfl rfl)⟩
theorem EvD.cons {ke e : Expr} {ks : List (Option Expr)} {es : List Expr} {x : Str} {d : D} {l : List (Str × D)} (u : Ev B k K Γ ke (.str x)) (v : Ev B k K Γ e d) (r : EvD B k K Γ ks es l) : EvD B k K Γ (some ke :: ks) (e :: es) ((x, d) :: l) :=
  ⟨by simp [r.1], by simp [r.2.1], by simp [r.2.2.1], fun p A env V s Q E rm eo i g h => pairTrees_cons_walk (u.run A env V s _ E rm eo i g fun v₁ s₁ i₁ k₁ l₁ => v.run A env V s₁ _ E rm eo i₁ (g.kp k₁) fun v₂ s₂ i₂ k₂ l₂ =>
    r.2.2.2 p A env V s₂ _ E rm eo i₂ ((g.kp k₁).kp k₂) fun vs s₃ i₃ k₃ a₃ l₃ => by
      simp only [Lay] at l₁
      (refine byE (l₁) fun t hq47 => ?_; (try clear l₁); subst hq47)
      refine h _ s₃ i₃ ((k₁.trans k₂).trans k₃) a₃ ?_
      show Layd B V s₃.heap ((x, d) :: l) ((x, v₂) :: strPairs vs)
      simp only [Layd]
      exact ⟨v₂, _, rfl, l₂.kp k₃, l₃⟩)⟩
theorem EvF.dict (O : B.Ok) {ks : List (Option Expr)} {es : List Expr} {l : List (Str × D)} {p : Pos} (x : EvD B k K Γ ks es l) (h0 : ks ≠ [] := by simp) (hl : ks.length ≤ 15 := by decide) (hn : (l.map (·.1)).Nodup := by decide) : EvF B k K Γ (.Dict ks es p) (.dict l) := .mk fun A env V s Q E rm eo i g h => by
  have kp : ∀ b o, s.heap.get? b = some o → (s.heap.push { cls := .type "dict", data := .dict #[] }).get? b = some o := fun b o e => Heap.get?_push_of_some _ e
  have fr : s.heap.get? s.heap.objs.size = none := none_size (Nat.le_refl _)
  let V' : Addr → Prop := fun b => V b ∨ b = s.heap.objs.size
  let s₀ : Shared := { s with heap := s.heap.push { cls := .type "dict", data := .dict #[] } }
  have g₀ : EnvR B V' s₀.heap env Γ := by
    refine ⟨fun b hb => ?_, fun y sl e => ?_⟩
    · rcases hb with hb | hb
      · exact (g.kp (.of kp)).domP b hb
      · subst hb; exact ⟨_, Heap.get?_push_size _ rfl, fun q => q.1 (.inr (.inr (.inl rfl)))⟩
    · refine byEA (g.vars y sl e) fun v lk hv => ?_
      refine ⟨v, lk.kp (.of kp), ?_⟩
      have mono : ∀ b o, ¬ V b → s.heap.get? b = some o → IsData o → ¬ V' b ∧ s₀.heap.get? b = some o := fun b o nb e _ => ⟨fun q => q.elim nb (fun z => by rw [z, fr] at e; cases e), kp b o e⟩
      cases sl with
      | sh d => exact Lay.mono mono hv
      | own a? d => (refine byEAAA (hv) fun a e f q c => ?_; (try clear hv)); exact ⟨a, e, f, .inl q, c.mono mono fun o e _ => kp a o e⟩
  refine wpAny_Dict_walk (knd := PySem.strKind B.prog B.w) x.2.2.1 (by rw [x.1, x.2.1]) h0 hl ?_
  refine x.2.2.2 p A env V' s₀ _ E rm eo (i.keep O (tk := s.toks) kp) g₀ fun vs s₁ i₁ k₁ a₁ l₁ => ?_
  have hd₁ : s₁.heap.DictOf (PySem.strKind B.prog B.w) s.heap.objs.size [] := by
    (refine byEE (Heap.DictOf.new (knd := PySem.strKind B.prog B.w) s.heap) fun o es' hr48 => ?_; refine byEAA (hr48) fun ep ho hx hd => ?_; (try clear hr48))
    exact ⟨o, es', ep, IsData.kept (.inr (.inr (.inl hx.1))) (k₁ _ o ho), hx, hd⟩
  refine display_done_str a₁ (by rw [l₁.keys]; exact hn) hd₁ fun h' hd' hs' => ?_
  have kp' : ∀ b o, b ≠ s.heap.objs.size → s₁.heap.get? b = some o → h'.get? b = some o := fun b o nb e => by rw [hs'.2 b nb]; exact e
  have k₂ : KpOff (fun b => b = s.heap.objs.size) s₁.heap h' := fun b o nb e => .inl (kp' b o nb e)
  have lo := O.size _ i.good
  have kk : Kp s.heap h' := fun b o e => by
    have nb : b ≠ s.heap.objs.size := fun z => by rw [z, fr] at e; cases e
    rcases k₁ b o (kp b o e) with q | ⟨c, sl, q⟩ | ⟨c, o', q⟩
    · exact .inl (kp' b _ nb q)
    · exact .inr (.inl ⟨c, sl, kp' b _ nb q⟩)
    · exact .inr (.inr ⟨c, o', kp' b _ nb q⟩)
  refine h _ _ ⟨O.step _ _ i₁.good fun b o hb e => kp' b o (fun z => by rw [z] at hb; exact absurd hb (Nat.not_lt.mpr lo)) e, i₁.gens, i₁.os, i.fr.off kk⟩ kk fr lo ⟨lo, _, hd', ?_⟩
  exact l₁.mono fun b o nb e id => ⟨nb, kp' b o (fun z => nb (.inr z)) e⟩
end
end Jv
namespace Jv
open PySem PySem.W PySem.Calls PyProof.Rows
section
variable {B : Base} {k : Nat} {K : Kinds} {Γ Γ' : G} {V V₀ W : Addr → Prop} {h h' : Heap} {env : Env} {A : Around} {s : Shared}
noncomputable def Off1 (a : Addr) (h h' : Heap) : Prop := KpOff (fun b => b = a) h h'
theorem Off1.of (hs : Heap.SameBut a h h') : Off1 a h h' := fun b o nb e => .inl ((hs.2 b nb).trans e)
theorem Content.isData {d : D} {a : Addr} (c : Content B V h d a) : ∃ o, h.get? a = some o ∧ IsData o := by
  cases d with
  | list l => (refine byEA (c) fun items hp1 _ => ?_; (try clear c); obtain ⟨n, e⟩ := hp1); exact ⟨_, e, .inl rfl⟩
  | tup l => (refine byEA (c) fun items hp2 _ => ?_; (try clear c); obtain ⟨n, e⟩ := hp2); exact ⟨_, e, .inr (.inl rfl)⟩
  | dict l => (refine byA (c) fun _ hr3 => ?_; (try clear c); refine byEA (hr3) fun kvs hp4 _ => ?_; (try clear hr3); obtain ⟨o, es, ep, ho, hx, _⟩ := hp4); exact ⟨o, ho, .inr (.inr (.inl hx.1))⟩
  | none => exact c.elim
  | bool _ => exact c.elim
  | int _ => exact c.elim
  | str _ => exact c.elim
  | ty _ => exact c.elim
theorem Looks.off1 {x : Str} {v : Value} {a : Addr} (l : Looks h env x v) (k : Off1 a h h') (d : ∃ o, h.get? a = some o ∧ IsData o) (loc : ∃ o, h.get? env.locals = some o ∧ o.cls = .type "frame") : Looks h' env x v := by
  (refine byEA (d) fun o ho hd => ?_; (try clear d))
  rcases l with ⟨e, m, p, q⟩ | ⟨e, c, p, q⟩
  · refine .inl ⟨e, m, p.keptQ fun o' e' => (k _ o' (fun z => ?_) e').q, q⟩
    (refine byEA (loc) fun o2 e2 c2 => ?_; (try clear loc))
    rw [z] at e2; rw [e2] at ho; cases ho
    exact hd.nf.1 c2
  · refine .inr ⟨e, c, p, q.keptQ fun o' e' => (k _ o' (fun z => ?_) e').q⟩
    (refine byEAA (q) fun o2 e2 c2 _ => ?_; (try clear q))
    rw [z] at e2; rw [e2] at ho; cases ho
    exact hd.nf.2 c2
theorem Stm.mut (st : Stm B V₀ W h env Γ) {x : Str} {a? : Option Addr} {d d' : D} {a : Addr} (hx : Γ.lookup x = some (.own a? d)) (lx : Looks h env x (.ref a)) (k : Off1 a h h') (c : Content B (fun b => V₀ b ∨ W b) h' d' a) :
    Stm B V₀ W h' env (put Γ x (.own a? d')) ∧ W a ∧ ∀ y w, Looks h env y w → Looks h' env y w := by
  refine byEAA (st.own x a? d _ hx lx) fun a' e' wa nv => ?_
  cases e'
  refine byEAEAAA (st.r.vars x _ hx) fun vx lx' a'' e'' hf hV hc => ?_
  rw [lx'.same lx] at e''; cases e''
  have hD := hc.isData
  have hloc : ∃ o, h.get? env.locals = some o ∧ o.cls = .type "frame" := by (refine byA (st.loc) fun _ hr5 => ?_; refine byEE (hr5) fun o es hr6 => ?_; (try clear hr5); refine byEAA (hr6) fun ep e c _ => ?_; (try clear hr6)); exact ⟨o, e, c⟩
  have fwd : ∀ y w, Looks h env y w → Looks h' env y w := fun y w l => l.off1 k hD hloc
  have keepK : ∀ b o, ¬ (V₀ b ∨ W b) → h.get? b = some o → IsData o → ¬ (V₀ b ∨ W b) ∧ h'.get? b = some o := fun b o nb e i =>
    ⟨nb, IsData.kept i (k b o (fun z => nb (.inr (z ▸ wa))) e)⟩
  have back : ∀ y w, (∃ sl', Γ.lookup y = some sl') → Looks h' env y w → Looks h env y w := fun y w hx l => by
    (refine byE (hx) fun sl' e => ?_; (try clear hx))
    refine byEA (st.r.vars y sl' e) fun w' l' _ => ?_
    have := (fwd y w' l').same l
    exact this ▸ l'
  have nloc : env.locals ≠ a := fun z => by
    (refine byEA (hloc) fun o e c => ?_; (try clear hloc)); (refine byEA (hD) fun o2 e2 c2 => ?_; (try clear hD))
    rw [z] at e; rw [e] at e2; cases e2; exact c2.nf.1 c
  refine ⟨⟨⟨fun b hb => ?_, fun y sl' e => ?_⟩, st.hi, st.frame, ⟨st.loc.1, ?_⟩, fun y c m => ⟨(st.cells y c m).1, ?_⟩, st.apart, st.kinds, fun y ay dy w e l => ?_, fun y z ay dy az dz w ey ez ly lz => ?_⟩, wa, fwd⟩
  · by_cases q : b = a
    · subst q
      refine byEA (c.isData) fun o e i => ?_
      exact ⟨o, e, fun z => z.1 i⟩
    · refine byEA (st.r.domP b hb) fun o e n => ?_
      exact (k b o q e).q.ex n
  · rw [put_look] at e
    by_cases hy : (y == x) = true
    · rw [if_pos hy] at e
      cases e
      rw [beq_iff_eq.mp hy]
      exact ⟨_, fwd x _ lx, a, rfl, fun a₀ z => by rw [hf a₀ z], hV, c⟩
    · rw [if_neg hy] at e
      refine byEA (st.r.vars y sl' e) fun w l hh => ?_
      refine ⟨w, fwd y w l, ?_⟩
      cases sl' with
      | sh dd => exact Lay.mono keepK hh
      | own ay dy =>
        (refine byEAAA (hh) fun r er f g cc => ?_; (try clear hh))
        refine ⟨r, er, f, g, cc.mono keepK fun o eo i => IsData.kept i (k r o (fun z => ?_) eo)⟩
        subst z
        subst er
        exact hy (beq_iff_eq.mpr (st.apo y x ay dy a? d _ e hx l lx))
  · refine byAEEEAAA (st.loc) fun _ o es ep e c1 c2 c3 => ?_
    rcases k _ o nloc e with q | ⟨_, sl, q⟩ | ⟨q, _⟩
    · exact ⟨o, es, ep, q, c1, c2, c3⟩
    · exact ⟨_, es, ep, q, c1, c2, c3⟩
    · rw [c1] at q; cases q
  · refine byAEEAA (st.cells y c m) fun _ v o e c1 c2 => ?_
    (refine byEA (hD) fun o2 e2 i2 => ?_; (try clear hD))
    have : c ≠ a := fun z => by rw [z] at e; rw [e] at e2; cases e2; exact i2.nf.2 c1
    exact ⟨v, (show CellAt h c v from ⟨o, e, c1, c2⟩).keptQ fun o' e' => (k _ o' this e').q⟩
  · rw [put_look] at e
    by_cases hy : (y == x) = true
    · rw [if_pos hy] at e
      cases e
      obtain rfl := beq_iff_eq.mp hy
      exact st.own y _ d w hx (back y w ⟨_, hx⟩ l)
    · rw [if_neg hy] at e
      exact st.own y ay dy w e (back y w ⟨_, e⟩ l)
  · have g : ∀ u au du, (put Γ x (.own a? d')).lookup u = some (.own au du) → ∃ au du, Γ.lookup u = some (.own au du) := fun u au du e => by
      rw [put_look] at e
      by_cases hy : (u == x) = true
      · obtain rfl := beq_iff_eq.mp hy; exact ⟨_, _, hx⟩
      · rw [if_neg hy] at e; exact ⟨_, _, e⟩
    refine byEE (g y _ _ ey) fun ay' dy' ey' => ?_
    refine byEE (g z _ _ ez) fun az' dz' ez' => ?_
    exact st.apo y z ay' dy' az' dz' w ey' ez' (back y w ⟨_, ey'⟩ ly) (back z w ⟨_, ez'⟩ lz)
structure EvN (B : Base) (k : Nat) (K : Kinds) (Γ : G) (e : Expr) (d : D) (Γ' : G) : Prop where
  run : ∀ (A : Around) (env : Env) (V₀ W : Addr → Prop) (s : Shared) (Q : Value → Shared → Prop) (E : Value → Shared → Prop),
  Room k A → EnvOk K env → Inv B A s → Stm B V₀ W s.heap env Γ →
  (∀ v s', Inv B A s' → Dom s.heap s'.heap → KpOff W s.heap s'.heap → (∀ y w, Looks s.heap env y w → Looks s'.heap env y w) → Stm B V₀ W s'.heap env Γ' → Lay B (fun b => V₀ b ∨ W b) s'.heap d v → Q v s') →
  wpAny B.M A (eval e env) Q E s
theorem EvN.m {e : Expr} {d : D} (x : EvN B k K Γ e d Γ') : EvM B k K Γ e d Γ' := .mk fun A env V₀ W s Q E rm eo i st h =>
  x.run A env V₀ W s Q E rm eo i st fun v s' i' dm kp lk st' l => h v s' W i' dm ⟨fun _ q => .inl q, kp⟩ st' l
structure EvLN (B : Base) (k : Nat) (K : Kinds) (Γ : G) (es : List Expr) (ds : List D) (Γ' : G) : Prop where
  run : ∀ (p : Pos) (A : Around) (env : Env) (V₀ W : Addr → Prop) (s : Shared) (Q : List Value → Shared → Prop) (E : Value → Shared → Prop),
  Room k A → EnvOk K env → Inv B A s → Stm B V₀ W s.heap env Γ →
  (∀ vs s', Inv B A s' → Dom s.heap s'.heap → KpOff W s.heap s'.heap → (∀ y w, Looks s.heap env y w → Looks s'.heap env y w) → Stm B V₀ W s'.heap env Γ' → Lays B (fun b => V₀ b ∨ W b) s'.heap ds vs → Q vs s') →
  wpAny B.M A (spliced (backTo p (starEach es env))) Q E s
theorem EvL.n {es : List Expr} {ds : List D} (x : EvL B k K Γ es ds) : EvLN B k K Γ es ds Γ := .mk fun p A env V₀ W s Q E rm eo i st h =>
  x.run p A env _ s Q E rm eo i st.r fun v s' i' kp l => h v s' i' kp.dom (kp.off _) (fun y w l => l.kp kp) (st.kp kp) l
theorem KpOff.trans' {h₁ h₂ h₃ : Heap} (x : KpOff W h₁ h₂) (y : KpOff W h₂ h₃) : KpOff W h₁ h₃ := x.trans y fun _ _ nb _ => nb
noncomputable def MutR (B : Base) (k : Nat) (f : Value) (d : D) (ds : List D) (d' dr : D) : Prop := ∀ (A : Around) (V : Addr → Prop) (s : Shared) (a : Addr) (vs : List Value) (Q : Value → Shared → Prop) (E : Value → Shared → Prop),
  Room k A → Inv B A s → (∀ b, V b → ∃ o, s.heap.get? b = some o ∧ ¬ IsPriv o) → V a → B.n₀ ≤ a → Content B V s.heap d a → Lays B V s.heap ds vs →
  (∀ v s', Inv B A s' → Off1 a s.heap s'.heap → Content B V s'.heap d' a → Lay B V s'.heap dr v → Q v s') → wpAny B.M A (call f (.ref a :: vs)) Q E s
theorem Off1.dom {a : Addr} (k : Off1 a h h') (e : ∃ o, h'.get? a = some o) : Dom h h' := fun b o q => by
  by_cases z : b = a
  · subst z; exact e
  · exact (k b o z q).ex
theorem Off1.off {a : Addr} (k : Off1 a h h') (wa : W a) : KpOff W h h' := fun b o nb e => k b o (fun z => nb (z ▸ wa)) e
theorem EvN.meth {x : Str} {px ap p : Pos} {name : Str} {args : List Expr} {T id : String} {a? : Option Addr} {d d' dr : D} {ds : List D} {Γ₁ : G} {d₁ : D} {a?₁ : Option Addr} (hx : Γ.lookup x = some (.own a? d)) (y : EvLN B k K Γ args ds Γ₁) (hx₁ : Γ₁.lookup x = some (.own a?₁ d₁)) (m : Meth T name id) (t : OfType B T d) (c : MutR B k (.builtin id) d₁ ds d' dr)
    (hl : (ap.endLine == p.line) = true := by rfl) (hs : noStars args = true := by rfl) (hn : args.length < 30 := by decide) (h1 : (x == ("__debug__" : Str)) = false := by decide) (h2 : (x == ("__classdict__" : Str)) = false := by decide)
    (hb : ∀ env, attributeBase (.Name x px) name env (eval (.Name x px) env) = eval (.Name x px) env := by intro _; rfl) :
    EvN B k K Γ (.Call (.Attribute (.Name x px) name ap) args [] p) dr (put Γ₁ x (.own a?₁ d')) := .mk fun A env V₀ W s Q E rm eo i st h => by
  have len : (backTo p (starEach args env)).all (fun x => !x.1) = true := by
    have := starEach_plain args env p hs
    rw [List.all_eq_true]
    intro z hz
    have h2 := List.any_eq_false.mp this z hz
    simpa using h2
  refine byEA (st.r.vars x _ hx) fun v l hv => ?_
  refine wpAny_Call_method_lateS (hb env) (by rw [len]; simp [backToKw, keywordEach]; exact hn) hl (wpAny_Name (loadName_looks eo l h2 ?_) h1)
  refine byA (t _ s v hv.layB) fun q1 q2 => ?_
  refine ⟨T, id, m.plain, m.slot, m.ty, q1, q2, ?_⟩
  refine callWith_blt rfl hs (y.run p A env V₀ W s _ E rm eo i st fun vs s₁ i₁ dm₁ k₁ lk₁ st₁ l₁ => ?_)
  refine byEAEAAA (st₁.r.vars x _ hx₁) fun v₁ lv₁ a ea hf hV hc => ?_
  have e1 := (lk₁ x v l).same lv₁
  rw [e1, ea]
  rw [ea] at lv₁
  have wa : W a := by
    refine byEAA (st₁.own x _ _ _ hx₁ lv₁) fun a' e' wa _ => ?_
    cases e'; exact wa
  refine c A _ s₁ a vs Q E rm i₁ st₁.r.domP hV (st₁.hi a wa) hc l₁ fun v₂ s₂ i₂ k₂ c₂ l₂ => ?_
  refine byAA (st₁.mut hx₁ lv₁ k₂ c₂) fun st₂ wa fwd => ?_
  refine byEA (c₂.isData) fun o eo _ => ?_
  exact h v₂ s₂ i₂ (dm₁.trans (k₂.dom ⟨o, eo⟩)) (KpOff.trans' k₁ (k₂.off wa)) (fun y w l => fwd y w (lk₁ y w l)) st₂ l₂
noncomputable def SetR (B : Base) (k : Nat) (d di dv d' : D) : Prop := ∀ (A : Around) (V : Addr → Prop) (s : Shared) (a : Addr) (iv v : Value) (Q : Unit → Shared → Prop) (E : Value → Shared → Prop),
  Room k A → Inv B A s → V a → B.n₀ ≤ a → Content B V s.heap d a → Lay B V s.heap di iv → Lay B V s.heap dv v →
  (∀ s', Inv B A s' → Off1 a s.heap s'.heap → Content B V s'.heap d' a → Q () s') → wpAny B.M A (setItem (.ref a) iv v) Q E s
end
end Jv
namespace Jv
open PySem PySem.W PySem.Calls PyProof.Rows
section
variable {B : Base} {k : Nat} {K : Kinds} {Γ Γ' : G} {V V₀ W : Addr → Prop} {h h' : Heap} {env : Env} {A : Around} {s : Shared}
theorem mapSeq_plain (f : Array Value → Array Value) (its : Array Value) (n : Nat) : ∃ n', Obj.mapSeq f { cls := .type "list", data := .seq its n } = { cls := .type "list", data := .seq (f its) n' } := by
  simp [Obj.mapSeq]
theorem plain_update {l : Addr} {its : Array Value} {n : Nat} (f : Array Value → Array Value) (ho : h.get? l = some { cls := .type "list", data := .seq its n }) : (h.update l (Obj.mapSeq f)).PlainList l (f its) := by
  refine byE (mapSeq_plain f its n) fun n' e => ?_
  exact ⟨n', by rw [Heap.get?_update_self _ ho (by rw [e]; rfl), e]⟩
theorem lays_off1 {l : List D} {vs : List Value} {a : Addr} (x : Lays B V h l vs) (va : V a) (k : Off1 a h h') : Lays B V h' l vs := x.mono fun b o nb e i => ⟨nb, IsData.kept i (k b o (fun z => nb (z ▸ va)) e)⟩
theorem mut_list (O : B.Ok) (i : Inv B A s) {a : Addr} {its its' : Array Value} {l' : List D} (va : V a) (lo : B.n₀ ≤ a) (hp : s.heap.PlainList a its) (hs : Heap.SameBut a s.heap h') (hp' : h'.PlainList a its') (ls : Lays B V s.heap l' its'.toList) (tk : Nat) :
    Inv B A { s with heap := h', toks := tk } ∧ Off1 a s.heap h' ∧ Content B V h' (.list l') a := by
  refine ⟨i.sameBut O hs lo (fun o e => ?_), .of hs, its', hp', lays_off1 ls va (.of hs)⟩
  (refine byE (hp) fun n e' => ?_; (try clear hp))
  rw [e'] at e; cases e; simp
theorem MutR.append (O : B.Ok) {l : List D} {d : D} (hz : l.length ≤ sizeLine) : MutR B k (.builtin "list.append") (.list l) [d] (.list (l ++ [d])) .none := fun A V s a vs Q E rm i dm va lo c ls h => by
  (refine byEA (c) fun its hp ll => ?_; (try clear c))
  simp only [Lays] at ls
  (refine byEEA (ls) fun v r hq1 hr2 => ?_; (try clear ls); subst hq1; refine byA (hr2) fun lv hq3 => ?_; (try clear hr2); subst hq3)
  refine wpAny_list_append_plain hp (fun h' hp' hs => ?_) (by rw [show its.size = l.length by rw [← ll.length]; simp]; exact hz)
  refine byAA (mut_list O i (l' := l ++ [d]) va lo hp hs hp' (by rw [Array.toList_push]; exact ll.append (.one lv)) s.toks) fun i' k' c' => ?_
  exact h _ _ i' k' c' rfl
theorem Meth.append : Meth "list" "append" "list.append" := ⟨PySem.F.plainAttrs_list, PySem.F.slot_list_append, PySem.F.type_list_append⟩
theorem MutR.extend (O : B.Ok) {l l₂ : List D} (hz : l.length + l₂.length ≤ sizeLine) : MutR B k (.builtin "list.extend") (.list l) [.list l₂] (.list (l ++ l₂)) .none := fun A V s a vs Q E rm i dm va lo c ls h => by
  (refine byEA (c) fun its hp ll => ?_; (try clear c))
  simp only [Lays] at ls
  (refine byEEA (ls) fun v r hq4 hr5 => ?_; (try clear ls); subst hq4; refine byA (hr5) fun lv hq6 => ?_; (try clear hr5); subst hq6)
  simp only [Lay] at lv
  (refine byEA (lv) fun b hq7 hr8 => ?_; (try clear lv); subst hq7; refine byA (hr8) fun nb hr9 => ?_; (try clear hr8); refine byEA (hr9) fun its₂ hp₂ ll₂ => ?_; (try clear hr9))
  refine byE (id hp) fun n ho => ?_
  refine byE (id hp₂) fun n₂ ho₂ => ?_
  have z1 : its.size = l.length := by rw [← ll.length]; simp
  have z2 : its₂.size = l₂.length := by rw [← ll₂.length]; simp
  have big : sizeLine = 16777216 := rfl
  refine call_meets PySem.F.slot_list_extend ⟨_, ho, rfl⟩ PySem.F.entry_list_extend (PySem.F.args_list_extend_2 _ _) (PySem.AutoSeq1.list_extend_list_list_0 a _ n b _ n₂ (by
    have : Builtin.List.listTooLong (its.size + its₂.size) = false := by
      unfold Builtin.List.listTooLong
      simp
      omega
    simp [this]) (by omega) (by omega)) ⟨ho, ho₂, ?_⟩
  refine byAA (mut_list O i (l' := l ++ l₂) va lo hp (Heap.SameBut.update ..) (plain_update (fun x => x ++ its₂) ho) (by rw [Array.toList_append]; exact ll.append ll₂) s.toks) fun i' k' c' => ?_
  exact h _ _ i' k' c' rfl
theorem Meth.extend : Meth "list" "extend" "list.extend" := ⟨PySem.F.plainAttrs_list, PySem.F.slot_list_extend, PySem.F.type_list_extend⟩
theorem ins_list {α : Type} (its : Array α) (n : Nat) (v : α) : (((its.extract 0 n).push v ++ its.extract n) : Array α).toList = its.toList.take n ++ [v] ++ its.toList.drop n := by
  simp
  exact List.take_of_length_le (by simp)
theorem MutR.insert (O : B.Ok) {l : List D} {n : Nat} {d : D} (hn : n ≤ l.length) (hz : l.length ≤ sizeLine) : MutR B k (.builtin "list.insert") (.list l) [.int n, d] (.list (l.take n ++ [d] ++ l.drop n)) .none := fun A V s a vs Q E rm i dm va lo c ls h => by
  (refine byEA (c) fun its hp ll => ?_; (try clear c))
  simp only [Lays] at ls
  (refine byEEA (ls) fun v r hq10 hr11 => ?_; (try clear ls); subst hq10; refine byA (hr11) fun hp12 hr13 => ?_; (try clear hr11); obtain ⟨t, rfl⟩ := hp12; refine byEEA (hr13) fun v r hq14 hr15 => ?_; (try clear hr13); subst hq14; refine byA (hr15) fun lv hq16 => ?_; (try clear hr15); subst hq16)
  refine byE (id hp) fun m ho => ?_
  have z1 : its.size = l.length := by rw [← ll.length]; simp
  have big : sizeLine = 16777216 := rfl
  obtain ⟨x, hx⟩ : ∃ x : Int, x = n := ⟨_, rfl⟩
  rw [← hx]
  have hf : Builtin.List.listFitsIndex x = true := by
    unfold Builtin.List.listFitsIndex
    simp
    omega
  have e : (if x < 0 then (x + (its.size : Int)).toNat else min x.toNat its.size) = n := by
    rw [if_neg (by omega)]; omega
  have ll' : Lays B V s.heap (l.take n ++ [d] ++ l.drop n) (((its.extract 0 n).push v ++ its.extract n) : Array Value).toList := by
    rw [ins_list]
    exact (Lays.append (Lays.append (ll.take n) (.one lv)) (ll.drop n))
  let f : Array Value → Array Value := fun xs => have k := if x < 0 then (x + (xs.size : Int)).toNat else min x.toNat xs.size; (xs.extract 0 k).push v ++ xs.extract k
  have ef : f its = (its.extract 0 n).push v ++ its.extract n := by
    show (its.extract 0 (if x < 0 then (x + (its.size : Int)).toNat else min x.toNat its.size)).push v ++ its.extract (if x < 0 then (x + (its.size : Int)).toNat else min x.toNat its.size) = _
    rw [e]
  refine byAA (mut_list O i (l' := l.take n ++ [d] ++ l.drop n) va lo hp (Heap.SameBut.update ..) (plain_update f ho) (by rw [ef]; exact ll') s.toks) fun i' k' c' => ?_
  exact call_meets PySem.F.slot_list_insert ⟨_, ho, rfl⟩ PySem.F.entry_list_insert (PySem.F.args_list_insert_3 _ _ _) (PySem.AutoSeq1.list_insert_list_int_val_1 a its m x t v (by rw [hf]; decide) (by omega)) ⟨ho, h _ _ i' k' c' rfl⟩
theorem Meth.insert : Meth "list" "insert" "list.insert" := ⟨PySem.F.plainAttrs_list, PySem.F.slot_list_insert, PySem.F.type_list_insert⟩
theorem setItem_plain {prog : Program} {w : World} {E : Value → Shared → Prop} {l : Addr} {items : Array Value} {x : Int} {j : Nat} {t : Tok} {v : Value} {Q : Unit → Shared → Prop} (hl : s.heap.IsList l items)
    (h0 : 0 ≤ x) (hfit : x < 2 ^ 63) (ex : x = (j : Int)) (hj : j < items.size) (hQ : Q () { s with heap := s.heap.update l (Obj.mapSeq (·.setIfInBounds j v)) }) :
    wpAny (model prog w) A (setItem (.ref l) (.int x t) v) Q E s := by
  refine byEAAE (id hl) fun o ho hc ne hd => ?_
  unfold PySem.setItem
  try with_reducible refine wpAny_holding ?_
  first | refine wpAny_bind (wpAny_pure ?_) | skip
  refine wpAny_bind (wpAny_sequenceKey hl.typeIs (by decide) ?_)
  refine wpAny_bind (wpAny_callSpecial?_slot (name := Str.ofString "__setitem__") hl.typeIs slot_list_setitem
    (wpAny_call_entry slot_list_setitem hl.typeIs entry_list_setitem ?_ (args_list_setitem _ _ _)))
  show wpAny _ _ (Builtin.List.listSubscript? (.int x t) >>= _) _ _ s
  refine wpAny_bind (wpAny_listSubscript_int (fitsIndex_of h0 hfit) ?_)
  clear hfit h0
  subst ex
  have hx' : items[j]? = some items[j] := Array.getElem?_eq_getElem hj
  show wpAny _ _ ((seqItemAt l j >>= fun r => pure (r.map (j, ·))) >>= _) _ _ s
  refine wpAny_bind (wpAny_bind (wpAny_seqItemAt ho hd (wpAny_pure ?_)))
  rw [hx']
  show wpAny _ _ (setSeqItemAt l j v >>= _) _ _ s
  refine wpAny_bind (wpAny_setSeqItemAt ho hd ?_)
  first
    | exact wpAny_bind (wpAny_pure (wpAny_pure ⟨.none, rfl, wpAny_pure hQ⟩))
    | exact wpAny_pure ⟨.none, rfl, wpAny_pure hQ⟩
theorem SetR.list (O : B.Ok) {l : List D} {n : Nat} {d : D} (hn : n < l.length) (hz : l.length ≤ sizeLine) : SetR B k (.list l) (.int n) d (.list (l.set n d)) := fun A V s a iv v Q E rm i va lo c li lv h => by
  (refine byEA (c) fun its hp ll => ?_; (try clear c))
  simp only [Lay] at li
  (refine byE (li) fun t hq17 => ?_; (try clear li); subst hq17)
  refine byE (id hp) fun m ho => ?_
  have z1 : its.size = l.length := by rw [← ll.length]; simp
  have big : sizeLine = 16777216 := rfl
  refine byAA (mut_list O i (l' := l.set n d) va lo hp (Heap.SameBut.update ..) (plain_update (fun xs => xs.setIfInBounds n v) ho) (by rw [Array.toList_setIfInBounds]; exact ll.set n lv) s.toks) fun i' k' c' => ?_
  exact setItem_plain hp.isList (by omega) (by omega) rfl (by omega) (h _ i' k' c')
end
end Jv
namespace Jv
open PySem PySem.W PySem.Calls PyProof.Rows
open PySem.SeqAt (EqAt RcAt)
mutual
noncomputable def sim : D → D → Bool
  | .none, .none => true
  | .bool _, .bool _ => true
  | .int _, .int _ => true
  | .str _, .str _ => true
  | .list l, .list l' => sims l l'
  | .tup l, .tup l' => sims l l'
  | _, _ => false
noncomputable def sims : List D → List D → Bool
  | a :: l, b :: l' => sim a b && sims l l'
  | _, _ => true
end
mutual
noncomputable def dep : D → Nat
  | .list l => deps l + 1
  | .tup l => deps l + 1
  | _ => 0
noncomputable def deps : List D → Nat
  | [] => 0
  | a :: l => max (dep a) (deps l)
end
section
variable {B : Base} {k : Nat} {K : Kinds} {Γ Γ' : G} {V V' W : Addr → Prop} {h h' : Heap} {env : Env} {A : Around} {s : Shared}
theorem PlainList.det {a : Addr} {i j : Array Value} (x : h.PlainList a i) (y : h.PlainList a j) : i = j := by
  (refine byE (x) fun n e => ?_; (try clear x)); (refine byE (y) fun m e' => ?_; (try clear y))
  rw [e] at e'
  injection e' with e'
  injection e' with _ _ e'
  injection e'
theorem PlainTup.det {a : Addr} {i j : Array Value} (x : PlainTup h a i) (y : PlainTup h a j) : i = j := by
  (refine byE (x) fun n e => ?_; (try clear x)); (refine byE (y) fun m e' => ?_; (try clear y))
  rw [e] at e'
  injection e' with e'
  injection e' with _ _ e'
  injection e'
mutual
theorem Lay.det : ∀ {d d' : D} {v : Value}, sim d d' = true → Lay B V h d v → Lay B V' h d' v → d = d'
  | .none, d', v, hs, x, y => by cases d' <;> (first | exact nomatch (show false = true from hs) | rfl)
  | .bool b, d', v, hs, x, y => by
    cases d' <;> (first | exact nomatch (show false = true from hs) | skip)
    simp only [Lay] at x y
    rw [x] at y; injection y with y; rw [y]
  | .int b, d', v, hs, x, y => by
    cases d' <;> (first | exact nomatch (show false = true from hs) | skip)
    simp only [Lay] at x y
    (refine byE (x) fun t hq1 => ?_; (try clear x); subst hq1); refine byE (y) fun t' y => ?_; injection y with y; rw [y]
  | .ty b, d', v, hs, x, y => by cases d' <;> (first | exact nomatch (show false = true from hs) | skip)
  | .str b, d', v, hs, x, y => by
    cases d' <;> (first | exact nomatch (show false = true from hs) | skip)
    simp only [Lay] at x y
    (refine byE (x) fun t hq2 => ?_; (try clear x); subst hq2); refine byE (y) fun t' y => ?_; injection y with y; rw [y]
  | .list l, d', v, hs, x, y => by
    cases d' <;> (first | exact nomatch (show false = true from hs) | skip)
    simp only [Lay] at x y
    (refine byEA (x) fun a hq3 hr4 => ?_; (try clear x); subst hq3; refine byA (hr4) fun _ hr5 => ?_; (try clear hr4); refine byEA (hr5) fun i p q => ?_; (try clear hr5)); (refine byEAAEA (y) fun a' e _ i' p' q' => ?_; (try clear y))
    cases e
    rw [PlainList.det p' p] at q'
    rw [Lays.det hs q q']
  | .tup l, d', v, hs, x, y => by
    cases d' <;> (first | exact nomatch (show false = true from hs) | skip)
    simp only [Lay] at x y
    (refine byEA (x) fun a hq6 hr7 => ?_; (try clear x); subst hq6; refine byA (hr7) fun _ hr8 => ?_; (try clear hr7); refine byEA (hr8) fun i p q => ?_; (try clear hr8)); (refine byEAAEA (y) fun a' e _ i' p' q' => ?_; (try clear y))
    cases e
    rw [PlainTup.det p' p] at q'
    rw [Lays.det hs q q']
  | .dict l, d', v, hs, x, y => by cases d' <;> (first | exact nomatch (show false = true from hs) | skip)
theorem Lays.det : ∀ {l l' : List D} {vs : List Value}, sims l l' = true → Lays B V h l vs → Lays B V' h l' vs → l = l'
  | [], l', vs, hs, x, y => by
    simp only [Lays] at x; subst x
    cases l' with
    | nil => rfl
    | cons b l' => simp [Lays] at y
  | a :: l, l', vs, hs, x, y => by
    simp only [Lays] at x
    (refine byEEA (x) fun v r hq9 hr10 => ?_; (try clear x); subst hq9; refine byA (hr10) fun x1 x2 => ?_; (try clear hr10))
    cases l' with
    | nil => simp [Lays] at y
    | cons b l' =>
      simp only [Lays] at y
      (refine byEEAA (y) fun v' r' e y1 y2 => ?_; (try clear y))
      cases e
      have hs := (Bool.and_eq_true _ _).mp (show (sim _ _ && sims _ _) = true from hs)
      rw [Lay.det hs.1 x1 y1, Lays.det hs.2 x2 y2]
end
theorem dep_mem : ∀ {l : List D} {d : D}, d ∈ l → dep d ≤ deps l
  | a :: l, d, hm => by
    rcases List.mem_cons.mp hm with rfl | hm
    · exact Nat.le_max_left _ _
    · have := dep_mem hm; exact Nat.le_trans this (Nat.le_max_right _ _)
noncomputable def EqsAt (A : Around) (s : Shared) (l l' : List D) (vs vs' : List Value) : Prop := ∃ e : Nat → Bool, ∀ (j : Nat) (v v' : Value) (d d' : D), l[j]? = some d → l'[j]? = some d' → vs[j]? = some v → vs'[j]? = some v' → (e j = true ↔ d = d') ∧ EqAt A s v v' (e j)
theorem eq_core {a b : Addr} {l l' : List D} {i i' : Array Value} (hl : s.heap.PlainList a i) (hb : s.heap.PlainList b i') (x : Lays B V s.heap l i.toList) (y : Lays B V' s.heap l' i'.toList) (hsz : l.length = l'.length) (eq : EqsAt A.in1 s l l' i.toList i'.toList) :
    ∃ e : Nat → Bool, ((List.range i.size).all e = true ↔ l = l') ∧ ∀ j (h1 : j < i.size) (h2 : j < i'.size), EqAt A.in1 s i[j] i'[j] (e j) := by
  have z1 : i.size = l.length := by rw [← x.length]; simp
  have z2 : i'.size = l'.length := by rw [← y.length]; simp
  (refine byE (eq) fun e he => ?_; (try clear eq))
  have lk : ∀ j (h1 : j < i.size) (h2 : j < i'.size), ∃ d d', l[j]? = some d ∧ l'[j]? = some d' ∧ i.toList[j]? = some i[j] ∧ i'.toList[j]? = some i'[j] := fun j h1 h2 =>
    ⟨l[j]'(by omega), l'[j]'(by omega), List.getElem?_eq_getElem _, List.getElem?_eq_getElem _, by simp, by simp⟩
  refine ⟨e, ?_, fun j h1 h2 => ?_⟩
  · rw [List.all_eq_true]
    constructor
    · intro hall
      apply List.ext_getElem? 
      intro j
      by_cases hj : j < l.length
      · refine byEEAAA (lk j (by omega) (by omega)) fun d d' e1 e2 e3 e4 => ?_
        rw [e1, e2, ((he j _ _ d d' e1 e2 e3 e4).1.mp (hall j (List.mem_range.mpr (by omega))))]
      · rw [List.getElem?_eq_none (by omega), List.getElem?_eq_none (by omega)]
    · intro hll j hj
      have hj := List.mem_range.mp hj
      refine byEEAAA (lk j hj (by omega)) fun d d' e1 e2 e3 e4 => ?_
      refine (he j _ _ d d' e1 e2 e3 e4).1.mpr ?_
      rw [hll, e2] at e1; injection e1 with e1; exact e1.symm
  · refine byEEAAA (lk j h1 h2) fun d d' e1 e2 e3 e4 => ?_
    exact (he j _ _ d d' e1 e2 e3 e4).2
theorem rc_list {a b : Addr} {l l' : List D} {i i' : Array Value} (hl : s.heap.PlainList a i) (hb : s.heap.PlainList b i') (x : Lays B V s.heap l i.toList) (y : Lays B V' s.heap l' i'.toList) (hu : A.units < cLine) (eq : l.length = l'.length → EqsAt A.in1 s l l' i.toList i'.toList) :
    ∃ c, (c = true ↔ l = l') ∧ RcAt A s (.ref a) (.ref b) c := by
  have z1 : i.size = l.length := by rw [← x.length]; simp
  have z2 : i'.size = l'.length := by rw [← y.length]; simp
  by_cases hsz : l.length = l'.length
  · refine byEA (eq_core hl hb x y hsz (eq hsz)) fun e hall he => ?_
    exact ⟨_, hall, .lists hl.isList hb.isList (by omega) hu he⟩
  · exact ⟨false, ⟨fun z => (by cases z), fun z => absurd (by rw [z]) hsz⟩, .lists_lengths hl.isList hb.isList (by simp; omega) hu⟩
theorem rc_tup {a b : Addr} {l l' : List D} {i i' : Array Value} (hl : PlainTup s.heap a i) (hb : PlainTup s.heap b i') (x : Lays B V s.heap l i.toList) (y : Lays B V' s.heap l' i'.toList) (hu : A.units < cLine) (eq : EqsAt A.in1 s l l' i.toList i'.toList) :
    ∃ c, (c = true ↔ l = l') ∧ RcAt A s (.ref a) (.ref b) c := by
  have z1 : i.size = l.length := by rw [← x.length]; simp
  have z2 : i'.size = l'.length := by rw [← y.length]; simp
  (refine byE (eq) fun e he => ?_; (try clear eq))
  have lk : ∀ j (h1 : j < i.size) (h2 : j < i'.size), ∃ d d', l[j]? = some d ∧ l'[j]? = some d' ∧ i.toList[j]? = some i[j] ∧ i'.toList[j]? = some i'[j] := fun j h1 h2 =>
    ⟨l[j]'(by omega), l'[j]'(by omega), List.getElem?_eq_getElem _, List.getElem?_eq_getElem _, by simp, by simp⟩
  refine ⟨(List.range (min i.size i'.size)).all e && i.size == i'.size, ?_, .tuples hl.isTuple hb.isTuple hu fun j h1 h2 => ?_⟩
  · rw [Bool.and_eq_true, List.all_eq_true, beq_iff_eq]
    constructor
    · intro ⟨hall, hsz⟩
      apply List.ext_getElem? 
      intro j
      by_cases hj : j < l.length
      · refine byEEAAA (lk j (by omega) (by omega)) fun d d' e1 e2 e3 e4 => ?_
        rw [e1, e2, ((he j _ _ d d' e1 e2 e3 e4).1.mp (hall j (List.mem_range.mpr (by omega))))]
      · rw [List.getElem?_eq_none (by omega), List.getElem?_eq_none (by omega)]
    · intro hll
      refine ⟨fun j hj => ?_, by rw [z1, z2, hll]⟩
      have hj := List.mem_range.mp hj
      refine byEEAAA (lk j (by omega) (by omega)) fun d d' e1 e2 e3 e4 => ?_
      refine (he j _ _ d d' e1 e2 e3 e4).1.mpr ?_
      rw [hll, e2] at e1; injection e1 with e1; exact e1.symm
  · refine byEEAAA (lk j h1 h2) fun d d' e1 e2 e3 e4 => ?_
    exact (he j _ _ d d' e1 e2 e3 e4).2
mutual
theorem eqAt : ∀ {d d' : D} {v v' : Value} {A : Around}, sim d d' = true → Lay B V s.heap d v → Lay B V' s.heap d' v' → A.units + dep d < cLine → ∃ c, (c = true ↔ d = d') ∧ EqAt A s v v' c
  | .none, d', v, v', A, hs, x, y, hu => by
    cases d' <;> (first | exact nomatch (show false = true from hs) | skip)
    simp only [Lay] at x y
    subst x y
    exact ⟨true, by simp, PySem.SeqAt.EqAt.same _⟩
  | .bool b, d', v, v', A, hs, x, y, hu => by
    cases d' <;> (first | exact nomatch (show false = true from hs) | skip)
    rename_i b'
    simp only [Lay] at x y
    subst x y
    exact ⟨b == b', by simp, PySem.SeqAt.EqAt.bool_bool _ _⟩
  | .int b, d', v, v', A, hs, x, y, hu => by
    cases d' <;> (first | exact nomatch (show false = true from hs) | skip)
    rename_i b'
    simp only [Lay] at x y
    (refine byE (x) fun t hq11 => ?_; (try clear x); subst hq11); (refine byE (y) fun t' hq12 => ?_; (try clear y); subst hq12)
    exact ⟨b == b', by simp, PySem.SeqAt.EqAt.int_int _ _ _ _⟩
  | .ty b, d', v, v', A, hs, x, y, hu => by cases d' <;> (first | exact nomatch (show false = true from hs) | skip)
  | .str b, d', v, v', A, hs, x, y, hu => by
    cases d' <;> (first | exact nomatch (show false = true from hs) | skip)
    rename_i b'
    simp only [Lay] at x y
    (refine byE (x) fun t hq13 => ?_; (try clear x); subst hq13); (refine byE (y) fun t' hq14 => ?_; (try clear y); subst hq14)
    exact ⟨b == b', by simp, PySem.SeqAt.EqAt.str_str _ _ _ _⟩
  | .list l, d', v, v', A, hs, x, y, hu => by
    cases d' <;> (first | exact nomatch (show false = true from hs) | skip)
    rename_i l'
    have x0 := x
    have y0 := y
    simp only [Lay] at x y
    (refine byEA (x) fun a hq15 hr16 => ?_; (try clear x); subst hq15; refine byA (hr16) fun na hr17 => ?_; (try clear hr16); refine byEA (hr17) fun i p q => ?_; (try clear hr17)); (refine byEA (y) fun a' hq18 hr19 => ?_; (try clear y); subst hq18; refine byA (hr19) fun na' hr20 => ?_; (try clear hr19); refine byEA (hr20) fun i' p' q' => ?_; (try clear hr20))
    have hu : A.units + (deps l + 1) < cLine := hu
    by_cases e : a = a'
    · subst e
      exact ⟨true, by simp; exact Lays.det hs q (by rw [PlainList.det p p']; exact q'), PySem.SeqAt.EqAt.same _⟩
    · refine byEA (rc_list p p' q q' (by omega) fun _ => eqsAt (A := A.in1) hs q q' (by show A.units + 1 + deps l < cLine; omega)) fun c hc rc => ?_
      exact ⟨c, by rw [hc]; simp, .of_refs e rc⟩
  | .tup l, d', v, v', A, hs, x, y, hu => by
    cases d' <;> (first | exact nomatch (show false = true from hs) | skip)
    rename_i l'
    simp only [Lay] at x y
    (refine byEA (x) fun a hq21 hr22 => ?_; (try clear x); subst hq21; refine byA (hr22) fun na hr23 => ?_; (try clear hr22); refine byEA (hr23) fun i p q => ?_; (try clear hr23)); (refine byEA (y) fun a' hq24 hr25 => ?_; (try clear y); subst hq24; refine byA (hr25) fun na' hr26 => ?_; (try clear hr25); refine byEA (hr26) fun i' p' q' => ?_; (try clear hr26))
    have hu : A.units + (deps l + 1) < cLine := hu
    by_cases e : a = a'
    · subst e
      exact ⟨true, by simp; exact Lays.det hs q (by rw [PlainTup.det p p']; exact q'), PySem.SeqAt.EqAt.same _⟩
    · refine byEA (rc_tup p p' q q' (by omega) (eqsAt (A := A.in1) hs q q' (by show A.units + 1 + deps l < cLine; omega))) fun c hc rc => ?_
      exact ⟨c, by rw [hc]; simp, .of_refs e rc⟩
  | .dict l, d', v, v', A, hs, x, y, hu => by cases d' <;> (first | exact nomatch (show false = true from hs) | skip)
theorem eqsAt : ∀ {l l' : List D} {vs vs' : List Value} {A : Around}, sims l l' = true → Lays B V s.heap l vs → Lays B V' s.heap l' vs' → A.units + deps l < cLine → EqsAt A s l l' vs vs'
  | [], l', vs, vs', A, hs, x, y, hu => ⟨fun _ => true, fun j v v' d d' e1 => by simp at e1⟩
  | a :: l, [], vs, vs', A, hs, x, y, hu => ⟨fun _ => true, fun j v v' d d' e1 e2 => by simp at e2⟩
  | a :: l, b :: l', vs, vs', A, hs, x, y, hu => by
    simp only [Lays] at x y
    (refine byEEA (x) fun v r hq27 hr28 => ?_; (try clear x); subst hq27; refine byA (hr28) fun x1 x2 => ?_; (try clear hr28))
    (refine byEEA (y) fun v' r' hq29 hr30 => ?_; (try clear y); subst hq29; refine byA (hr30) fun y1 y2 => ?_; (try clear hr30))
    have hs := (Bool.and_eq_true _ _).mp (show (sim a b && sims l l') = true from hs)
    have hu : A.units + max (dep a) (deps l) < cLine := hu
    have := Nat.le_max_left (dep a) (deps l)
    have := Nat.le_max_right (dep a) (deps l)
    refine byEA (eqAt (A := A) hs.1 x1 y1 (by omega)) fun c hc ec => ?_
    refine byE (eqsAt hs.2 x2 y2 (show A.units + deps l < cLine by omega)) fun e he => ?_
    refine ⟨fun j => match j with | 0 => c | j + 1 => e j, fun j w w' d d' e1 e2 e3 e4 => ?_⟩
    cases j with
    | zero => simp at e1 e2 e3 e4; subst e1 e2 e3 e4; exact ⟨hc, ec⟩
    | succ j => simp at e1 e2 e3 e4; exact he j w w' d d' e1 e2 e3 e4
end
theorem same_bool {b c : Bool} {p : Prop} (x : b = true ↔ p) (y : c = true ↔ p) : b = c := by
  cases b <;> cases c <;> simp_all
theorem CmpR.eq_list {l l' : List D} {b : Bool} (hs : sims l l' = true) (hb : b = true ↔ l = l') (hd : deps l < 50) : CmpR B k .Eq (.list l) (.list l') b := fun A V s v₁ v₂ Q E r i dm x y h => by
  (refine byEEA (x.asList) fun a it hq31 hr32 => ?_; subst hq31; refine byA (hr32) fun p q => ?_; (try clear hr32))
  (refine byEEA (y.asList) fun a' it' hq33 hr34 => ?_; subst hq33; refine byA (hr34) fun p' q' => ?_; (try clear hr34))
  have hu := r.units
  refine byEA (rc_list (A := A) p p' q q' (show A.units < 9900 by omega) fun _ => eqsAt (A := A.in1) hs q q' (by show A.units + 1 + deps l < 9900; omega)) fun c hc rc => ?_
  rw [same_bool hb hc] at h
  exact rc B.prog B.w E Q (h s i (.refl _))
theorem in_core {l : List D} {d : D} {vs : List Value} {v : Value} {A : Around} (hs : l.all (fun z => sim z d) = true) (x : Lays B V s.heap l vs) (y : Lay B V' s.heap d v) (hu : A.units + deps l < cLine) :
    ∃ e : Value → Bool, (∀ w, w ∈ vs → EqAt A s w v (e w)) ∧ (vs.any e = true ↔ d ∈ l) := by
  classical
  refine ⟨fun w => decide (d ∈ l ∧ Lay B V s.heap d w), fun w hw => ?_, ?_⟩
  · refine byE (List.mem_iff_getElem?.mp hw) fun j hj => ?_
    have hj' : j < l.length := by rw [← x.length]; exact (List.getElem?_eq_some_iff.mp hj).1
    refine byEA (x.get (List.getElem?_eq_getElem hj')) fun w' e' lw => ?_
    rw [hj] at e'; cases e'
    have hz := List.all_eq_true.mp hs _ (List.getElem_mem hj')
    have := dep_mem (List.getElem_mem hj')
    refine byEA (eqAt (A := A) hz lw y (by omega)) fun c hc ec => ?_
    have e : c = decide (d ∈ l ∧ Lay B V s.heap d w) := same_bool hc (by
      rw [decide_eq_true_iff]
      constructor
      · intro ⟨_, q⟩
        exact Lay.det hz lw q
      · intro q
        refine ⟨q ▸ List.getElem_mem hj', ?_⟩
        rw [← q]; exact lw)
    show EqAt A s w v (decide (d ∈ l ∧ Lay B V s.heap d w))
    rw [← e]; exact ec
  · rw [List.any_eq_true]
    constructor
    · intro ⟨w, _, q⟩
      exact (decide_eq_true_iff.mp q).1
    · intro q
      refine byE (List.mem_iff_getElem?.mp q) fun j hj => ?_
      refine byEA (x.get hj) fun w e lw => ?_
      exact ⟨w, List.mem_of_getElem? e, decide_eq_true_iff.mpr ⟨q, lw⟩⟩
theorem CmpR.ne_list {l l' : List D} {b : Bool} (hs : sims l l' = true) (hb : b = true ↔ l ≠ l') (hd : deps l < 50) : CmpR B k .NotEq (.list l) (.list l') b := fun A V s v₁ v₂ Q E r i dm x y h => by
  (refine byEEA (x.asList) fun a it hq35 hr36 => ?_; subst hq35; refine byA (hr36) fun p q => ?_; (try clear hr36))
  (refine byEEA (y.asList) fun a' it' hq37 hr38 => ?_; subst hq37; refine byA (hr38) fun p' q' => ?_; (try clear hr38))
  have hu := r.units
  have hA : A.units < cLine := show A.units < 9900 by omega
  have hh := h s i (.refl _)
  have z1 : it.size = l.length := by rw [← q.length]; simp
  have z2 : it'.size = l'.length := by rw [← q'.length]; simp
  refine byE (id p) fun n ho => ?_
  refine byE (id p') fun n' ho' => ?_
  by_cases hsz : it.size = it'.size
  · refine byEA (eq_core p p' q q' (by omega) (eqsAt (A := A.in1) hs q q' (by show A.units + 1 + deps l < 9900; omega))) fun e hall he => ?_
    have eb : b = !(List.range it.size).all e := same_bool hb (by rw [Bool.not_eq_true', Bool.eq_false_iff]; exact not_congr hall)
    rw [eb] at hh
    exact richCompare_meets_room (op := .NotEq) ⟨_, ho, rfl⟩ ⟨_, ho', rfl⟩ PySem.F.slot_list_ne PySem.F.entry_list_ne (PySem.F.args_list_ne_2 _ _) (PySem.SeqAt.list_neAt a a' it it' n n' none none #[] #[] hsz e) ⟨ho, ho', he, show Value.bool _ ≠ Value.notImplemented ∧ Q (.bool _) s from ⟨(fun x => nomatch x), hh⟩⟩ hA
  · have eb : b = true := hb.mpr fun z => hsz (by rw [z1, z2, z])
    rw [eb] at hh
    exact richCompare_meets_room (op := .NotEq) ⟨_, ho, rfl⟩ ⟨_, ho', rfl⟩ PySem.F.slot_list_ne PySem.F.entry_list_ne (PySem.F.args_list_ne_2 _ _) (PySem.SeqAt.list_ne_lengthsAt a a' it it' n n' none none #[] #[] (by simp; exact hsz)) ⟨ho, ho', show Value.bool _ ≠ Value.notImplemented ∧ Q (.bool _) s from ⟨(fun x => nomatch x), hh⟩⟩ hA
noncomputable def isImm : D → Bool
  | .none => true
  | .bool _ => true
  | .int _ => true
  | .str _ => true
  | .ty _ => true
  | _ => false
theorem LayB.imm {d : D} {v : Value} (x : LayB B V h d v) (hi : isImm d = true) : Lay B V h d v := by
  rcases x with x | ⟨a, e, c⟩
  · exact x
  · cases d <;> first | exact nomatch (show false = true from hi) | exact c.elim
theorem CmpR.in_list {l : List D} {d : D} {b : Bool} (hi : isImm d = true) (hs : l.all (fun z => sim z d) = true) (hb : b = true ↔ d ∈ l) (hd : deps l < 50) : CmpR B k .In d (.list l) b := fun A V s v₁ v₂ Q E r i dm x y h => by
  (refine byEEA (y.asList) fun a it hq39 hr40 => ?_; subst hq39; refine byA (hr40) fun p q => ?_; (try clear hr40))
  have hu := r.units
  refine byEA (in_core (A := A.in1) hs q (x.imm hi) (by show A.units + 1 + deps l < 9900; omega)) fun e he ha => ?_
  have hh := h s i (.refl _)
  rw [same_bool hb ha] at hh
  exact PySem.SeqAt.in_listAt e p.isList (fun w hw => he w (Array.mem_toList_iff.mpr hw)) (by rw [← Array.any_toList]; exact hh)
end
end Jv
namespace Jv
open PySem PySem.W PySem.Calls PyProof.Rows
noncomputable def sl (l : List Str) : List D := l.map .str
section
variable {B : Base} {k : Nat} {K : Kinds} {Γ Γ' : G} {V V' W : Addr → Prop} {h h' : Heap} {env : Env} {A : Around} {s : Shared}
noncomputable def BinF (B : Base) (k : Nat) (op : Operator) (d₁ d₂ d : D) : Prop := ∀ (A : Around) (V : Addr → Prop) (s : Shared) (v₁ v₂ : Value) (Q : Value → Shared → Prop) (E : Value → Shared → Prop),
  Room k A → Inv B A s → LayB B V s.heap d₁ v₁ → LayB B V s.heap d₂ v₂ → (∀ a s', Inv B A s' → Kp s.heap s'.heap → s.heap.get? a = none → B.n₀ ≤ a → Content B (fun b => V b ∨ b = a) s'.heap d a → Q (.ref a) s') → wpAny B.M A (binaryOp op v₁ v₂) Q E s
theorem EvF.bin {l r : Expr} {op : Operator} {p : Pos} {d₁ d₂ d : D} (x : EvB B k K Γ l d₁) (y : EvB B k K Γ r d₂) (z : BinF B k op d₁ d₂ d) : EvF B k K Γ (.BinOp l op r p) d :=
  .mk fun A env V s Q E rm o i g h => wpAny_BinOp (x.run A env V s _ E rm o i g fun v₁ s₁ i₁ k₁ l₁ => y.run A env V s₁ _ E rm o i₁ (g.kp k₁) fun v₂ s₂ i₂ k₂ l₂ =>
    z A V s₂ v₁ v₂ _ E rm i₂ (l₁.kp k₂) l₂ fun a s₃ i₃ k₃ n₃ lo c => h a s₃ i₃ ((k₁.trans k₂).trans k₃) (fresh_of (k₁.trans k₂) n₃) lo c)
theorem BinF.add_list (O : B.Ok) {l l' : List D} (hz : l.length + l'.length ≤ sizeLine) : BinF B k .Add (.list l) (.list l') (.list (l ++ l')) := fun A V s v₁ v₂ Q E rm i x y h => by
  (refine byEEA (x.asList) fun a it hq1 hr2 => ?_; subst hq1; refine byA (hr2) fun hp3 q => ?_; (try clear hr2); obtain ⟨n, ho⟩ := hp3)
  (refine byEEA (y.asList) fun a' it' hq4 hr5 => ?_; subst hq4; refine byA (hr5) fun hp6 q' => ?_; (try clear hr5); obtain ⟨n', ho'⟩ := hp6)
  have z1 : it.size = l.length := by rw [← q.length]; simp
  have z2 : it'.size = l'.length := by rw [← q'.length]; simp
  refine byAAAA (newList O i (items := it ++ it') (ds := l ++ l') (V := V) (by rw [Array.toList_append]; exact q.append q')) fun i' k' f' lo' c' => ?_
  exact PySem.P.add_list ho ho' (h _ _ i' k' f' lo' c') (by omega)
theorem InpR.add_int {a b : Int} : InpR B k .Add (.int a) (.int b) (.int (a + b)) := fun A V s v₁ v₂ Q E r i dm x y h => by
  (refine byE (x.asInt) fun t hq7 => ?_; subst hq7); (refine byE (y.asInt) fun u hq8 => ?_; subst hq8)
  exact PyProof.Rows.iadd_int (h _ _ (i.tok _) (.refl _) ⟨_, rfl⟩)
theorem InpR.add_str {a b : Str} (hz : a.length + b.length ≤ sizeLine) : InpR B k .Add (.str a) (.str b) (.str (a ++ b)) := fun A V s v₁ v₂ Q E r i dm x y h => by
  (refine byE (x.asStr) fun t hq9 => ?_; subst hq9); (refine byE (y.asStr) fun u hq10 => ?_; subst hq10)
  exact PyProof.Rows.iadd_str (fun t' tk => h _ _ (i.tok _) (.refl _) ⟨_, rfl⟩) hz
theorem TruR.str {x : Str} (hz : x.length ≤ sizeLine) : TruR B k (.str x) (x.length != 0) := fun A V s v Q E r i y h => by
  (refine byE (y.asStr) fun t hq11 => ?_; subst hq11)
  have big : sizeLine = 16777216 := rfl
  refine PySem.P.truthy_str (by omega) ?_
  have e : ((x.length : Int) != 0) = (x.length != 0) := by
    rw [Bool.eq_iff_iff, bne_iff_ne, bne_iff_ne]; omega
  rw [e]
  exact h _ (i.tok _) (.refl _)
theorem TruR.tup {l : List D} (hz : l.length ≤ sizeLine) : TruR B k (.tup l) (!l.isEmpty) := fun A V s v Q E r i y h => by
  (refine byEEA (y.asTup) fun a it hq14 hr15 => ?_; subst hq14; refine byA (hr15) fun p q => ?_; (try clear hr15))
  have big : sizeLine = 16777216 := rfl
  have z1 : it.size = l.length := by rw [← q.length]; simp
  (refine byE (p) fun n ho => ?_; (try clear p))
  refine PyProof.Rows.truthy_tuple (items := it) ⟨_, ho, rfl, n, rfl⟩ (by omega) ?_
  have e : it.isEmpty = l.isEmpty := by
    cases l with
    | nil => simp at z1; simp [z1]
    | cons a l => simp at z1; simp; intro z; simp [z] at z1
  rw [e]
  exact h _ (i.tok _) (.refl _)
theorem Ex1.augItem {x : Str} {px pp p : Pos} {op : Operator} {ie value : Expr} {a? : Option Addr} {d di do_ dv dn d' : D} (hx : Γ.lookup x = some (.own a? d)) (w : Ev B k K Γ ie di) (g : SubR B k d di do_) (u : Ev B k K Γ value dv) (z : InpR B k op do_ dv dn) (c : SetR B k d di dn d')
    (ha : ∀ (ov iv new : Value), augStore ie ov iv new = (do holding [new, ov, iv] (PySem.setItem ov iv new); release [new, ov, iv] []; pure .next) := by intro _ _ _; rfl)
    (h1 : (x == ("__debug__" : Str)) = false := by decide) (h2 : (x == ("__classdict__" : Str)) = false := by decide) :
    Ex1 B k K Γ (.AugAssign (.Subscript (.Name x px) ie pp) op value p) .next (put Γ x (.own a? d')) := .mk fun A env V₀ W s Q E rm eo i st h => by
  refine byEAEAAA (st.r.vars x _ hx) fun vx lx a ea hf hV hc => ?_
  subst ea
  have wa : W a := by
    refine byEAA (st.own x _ _ _ hx lx) fun a' e' wa _ => ?_
    cases e'; exact wa
  refine wpAny_AugAssign_SubscriptAny (wpAny_Name (loadName_looks eo lx h2 (w.run A env _ s _ E rm eo i st.r fun iv s₁ i₁ k₁ l₁ => ?_)) h1) ha
  have st₁ := st.kp k₁
  refine byEEAA (g A _ s₁ (.ref a) iv (fun v s₂ => wpAny B.M A (eval value env) (fun v' s₃ => wpAny B.M A (inplaceOp op v v') (fun new s₄ => wpAny B.M A (PySem.setItem (.ref a) iv new) (fun _ => Q .next) E s₄) E s₃) E s₂) E rm i₁ st₁.r.dom (.inr ⟨a, rfl, hc.kp k₁⟩) (.inl l₁) fun v s₂ i₂ k₂ l₂ =>
    u.run A env _ s₂ _ E rm eo i₂ (st₁.kp k₂).r fun v' s₃ i₃ k₃ l₃ => z A _ s₃ v v' _ E rm i₃ ((st₁.kp k₂).kp k₃).r.dom (.inl (l₂.kp k₃)) (.inl l₃) fun v'' s₄ i₄ k₄ l₄ =>
    c A _ s₄ a iv v'' _ E rm i₄ hV (st.hi a wa) ((((hc.kp k₁).kp k₂).kp k₃).kp k₄) (((l₁.kp k₂).kp k₃).kp k₄) l₄ fun s₅ i₅ k₅ c₅ => by
      have kk := ((k₁.trans k₂).trans k₃).trans k₄
      have st₄ := st.kp kk
      obtain ⟨st₅, _, fwd⟩ := st₄.mut hx (lx.kp kk) k₅ c₅
      obtain ⟨o, eo, _⟩ := c₅.isData
      exact h .next s₅ W i₅ (kk.dom.trans (k₅.dom ⟨o, eo⟩)) ⟨fun _ q => .inl q, KpOff.trans' (kk.off _) (k₅.off wa)⟩ st₅ rfl) fun T id _ _ hg => ?_
  exact hg
theorem Lays.strs : ∀ (l : List (Str × Tok)), Lays B V h (sl (l.map (·.1))) (strValues l)
  | [] => by simp [sl, strValues, Lays]
  | (x, t) :: l => by
    show Lays B V h (.str x :: sl (l.map (·.1))) (.str x t :: strValues l)
    simp only [Lays]
    exact ⟨_, _, rfl, ⟨t, rfl⟩, Lays.strs l⟩
theorem Lays.toStrs : ∀ {l : List Str} {vs : List Value}, Lays B V h (sl l) vs → ∃ z : List (Str × Tok), z.map (·.1) = l ∧ vs = strValues z
  | [], vs, x => by simp only [sl, List.map_nil, Lays] at x; subst x; exact ⟨[], rfl, rfl⟩
  | y :: l, vs, x => by
    have x' : Lays B V h (.str y :: sl l) vs := x
    simp only [Lays] at x'
    (refine byEEA (x') fun v r hq16 hr17 => ?_; (try clear x'); subst hq16; refine byA (hr17) fun hp18 q => ?_; (try clear hr17); obtain ⟨t, rfl⟩ := hp18)
    refine byEA (Lays.toStrs q) fun z e1 e2 => ?_
    exact ⟨(y, t) :: z, by simp [e1], by rw [e2]; rfl⟩
theorem Meth.startswith : Meth "str" "startswith" "str.startswith" := ⟨PySem.F.plainAttrs_str, PySem.F.slot_str_startswith, PySem.F.type_str_startswith⟩
theorem BltR.startswith {x y : Str} : BltR B k (.builtin "str.startswith") [.str x, .str y] (.bool (Txt.startswith x y)) := fun A V s vs Q E rm i dm ls h => by
  (refine byEEA (ls.two) fun v w hq19 hr20 => ?_; subst hq19; refine byA (hr20) fun a b => ?_; (try clear hr20))
  (refine byE (a.asStr) fun t hq21 => ?_; subst hq21); (refine byE (b.asStr) fun u hq22 => ?_; subst hq22)
  exact PySem.SC.startswith (h _ _ i (.refl _) rfl)
theorem Meth.endswith : Meth "str" "endswith" "str.endswith" := ⟨PySem.F.plainAttrs_str, PySem.F.slot_str_endswith, PySem.F.type_str_endswith⟩
theorem BltR.endswith {x y : Str} : BltR B k (.builtin "str.endswith") [.str x, .str y] (.bool (Txt.endswith x y)) := fun A V s vs Q E rm i dm ls h => by
  (refine byEEA (ls.two) fun v w hq23 hr24 => ?_; subst hq23; refine byA (hr24) fun a b => ?_; (try clear hr24))
  (refine byE (a.asStr) fun t hq25 => ?_; subst hq25); (refine byE (b.asStr) fun u hq26 => ?_; subst hq26)
  exact PySem.SC.endswith (h _ _ i (.refl _) rfl)
theorem Meth.rfind : Meth "str" "rfind" "str.rfind" := ⟨PySem.F.plainAttrs_str, PySem.F.slot_str_rfind, PySem.F.type_str_rfind⟩
theorem BltR.rfind {x y : Str} : BltR B k (.builtin "str.rfind") [.str x, .str y] (.int (Txt.rfind x y)) := fun A V s vs Q E rm i dm ls h => by
  (refine byEEA (ls.two) fun v w hq27 hr28 => ?_; subst hq27; refine byA (hr28) fun a b => ?_; (try clear hr28))
  (refine byE (a.asStr) fun t hq29 => ?_; subst hq29); (refine byE (b.asStr) fun u hq30 => ?_; subst hq30)
  exact PySem.SC.rfind (h _ _ (i.tok _) (.refl _) ⟨_, rfl⟩)
theorem Meth.rstrip : Meth "str" "rstrip" "str.rstrip" := ⟨PySem.F.plainAttrs_str, PySem.F.slot_str_rstrip, PySem.F.type_str_rstrip⟩
theorem BltR.rstrip {x y : Str} (hz : x.length ≤ sizeLine) : BltR B k (.builtin "str.rstrip") [.str x, .str y] (.str (Txt.rstripChars x y)) := fun A V s vs Q E rm i dm ls h => by
  (refine byEEA (ls.two) fun v w hq31 hr32 => ?_; subst hq31; refine byA (hr32) fun a b => ?_; (try clear hr32))
  (refine byE (a.asStr) fun t hq33 => ?_; subst hq33); (refine byE (b.asStr) fun u hq34 => ?_; subst hq34)
  exact PySem.SC.rstripChars (fun t' tk => h _ _ (i.tok _) (.refl _) ⟨_, rfl⟩) hz
theorem Meth.join : Meth "str" "join" "str.join" := ⟨PySem.F.plainAttrs_str, PySem.F.slot_str_join, PySem.F.type_str_join⟩
theorem BltR.join {x : Str} {l : List Str} (hok : JoinOk x l = true) : BltR B k (.builtin "str.join") [.str x, .list (sl l)] (.str (Txt.join x l)) := fun A V s vs Q E rm i dm ls h => by
  (refine byEEA (ls.two) fun v w hq35 hr36 => ?_; subst hq35; refine byA (hr36) fun a b => ?_; (try clear hr36))
  (refine byE (a.asStr) fun t hq37 => ?_; subst hq37)
  (refine byEEA (b.asList) fun D it hq38 hr39 => ?_; subst hq38; refine byA (hr39) fun p q => ?_; (try clear hr39))
  refine byEA (q.toStrs) fun z e1 e2 => ?_
  have e : it = (strValues z).toArray := by rw [← e2]
  exact PySem.SC.join (l := z) (e ▸ p.isList) e1 hok fun t' tk => h _ _ (i.tok _) (.refl _) ⟨_, rfl⟩
theorem Meth.split : Meth "str" "split" "str.split" := ⟨PySem.F.plainAttrs_str, PySem.F.slot_str_split, PySem.F.type_str_split⟩
theorem newList' (O : B.Ok) (i : Inv B A s) {ds : List D} {items : Array Value} (l : ∀ V : Addr → Prop, Lays B V s.heap ds items.toList) (tk : Nat) :
    Inv B A { s with heap := s.heap.push { cls := .type "list", data := .seq items }, toks := tk } ∧ Kp s.heap (s.heap.push { cls := .type "list", data := .seq items }) ∧ s.heap.get? s.heap.objs.size = none ∧ B.n₀ ≤ s.heap.objs.size ∧ Content B (fun b => V b ∨ b = s.heap.objs.size) (s.heap.push { cls := .type "list", data := .seq items }) (.list ds) s.heap.objs.size := by
  refine byAAAA (newList (V := V) O i (l V)) fun a b c d e => ?_
  exact ⟨a.tok tk, b, c, d, e⟩
theorem BltF.split (O : B.Ok) {x y : Str} (hy : (y.length == 0) = false) (hz : x.length ≤ sizeLine) (hz2 : (Builtin.Str.partsBetween x (Builtin.Str.occurrences x y 0 x.length (x.length + 1)) y.length).length ≤ sizeLine) :
    BltF B k (.builtin "str.split") [.str x, .str y] (.list (sl (Txt.split x y))) := fun A V s vs Q E rm i dm ls h => by
  (refine byEEA (ls.two) fun v w hq40 hr41 => ?_; subst hq40; refine byA (hr41) fun a b => ?_; (try clear hr41))
  (refine byE (a.asStr) fun t hq42 => ?_; subst hq42); (refine byE (b.asStr) fun u hq43 => ?_; subst hq43)
  have one : Txt.split x y = [x] → Q (.ref s.heap.objs.size) { s with heap := s.heap.push { cls := .type "list", data := .seq [Value.str x t].toArray } } := fun e => by
    rw [e] at h
    refine byAAAA (newList' (V := V) O i (ds := sl [x]) (items := [Value.str x t].toArray) (fun V => Lays.strs [(x, t)]) s.toks) fun i' k' f' lo' c' => ?_
    exact h _ _ i' k' f' lo' c'
  cases h1 : (decide (x.length < y.length) || decide (Builtin.Str.strKind x < Builtin.Str.strKind y))
  · cases hf : (Builtin.Str.occurrences x y 0 x.length (x.length + 1)).isEmpty
    · refine call_meets PySem.F.slot_str_split (typeIs_str _ _ _) PySem.F.entry_str_split (PySem.F.args_str_split_2 _ _) (meets_str_split_sep x y t u h1 hy hf hz hz2) ?_
      have e : Txt.split x y = Builtin.Str.partsBetween x (Builtin.Str.occurrences x y 0 x.length (x.length + 1)) y.length := (if_neg (by rw [h1]; simp)).trans (if_neg (by rw [hf]; simp))
      rw [e] at h
      refine byAAAA (newList' (V := V) O i (ds := sl (Builtin.Str.partsBetween x (Builtin.Str.occurrences x y 0 x.length (x.length + 1)) y.length)) (items := (strsFrom s.toks (Builtin.Str.partsBetween x (Builtin.Str.occurrences x y 0 x.length (x.length + 1)) y.length)).toArray)
        (fun V => by
          have := Lays.strs (B := B) (V := V) (h := s.heap) (numbered s.toks (Builtin.Str.partsBetween x (Builtin.Str.occurrences x y 0 x.length (x.length + 1)) y.length))
          rw [numbered_texts, ← strsFrom_eq] at this
          exact this) (s.toks + (Builtin.Str.partsBetween x (Builtin.Str.occurrences x y 0 x.length (x.length + 1)) y.length).length)) fun i' k' f' lo' c' => ?_
      exact h _ _ i' k' f' lo' c'
    · exact call_meets PySem.F.slot_str_split (typeIs_str _ _ _) PySem.F.entry_str_split (PySem.F.args_str_split_2 _ _) (meets_str_split_not_found x y t u h1 hy hf) (one ((if_neg (by rw [h1]; simp)).trans (if_pos hf)))
  · exact call_meets PySem.F.slot_str_split (typeIs_str _ _ _) PySem.F.entry_str_split (PySem.F.args_str_split_2 _ _) (meets_str_split_cannot_occur x y t u h1) (one (if_pos h1))
end
end Jv
namespace Jv
open PySem PySem.W PySem.Calls PyProof.Rows
section
variable {B : Base} {k : Nat} {K : Kinds} {Γ Γ' : G} {V V' V₀ W : Addr → Prop} {h h' : Heap} {env : Env} {A : Around} {s : Shared}
theorem Stm.weak {Γ' : G} (st : Stm B V₀ W h env Γ) (hw : ∀ y sl, Γ'.lookup y = some sl → Γ.lookup y = some sl) : Stm B V₀ W h env Γ' :=
  ⟨⟨st.r.domP, fun x sl e => st.r.vars x sl (hw x sl e)⟩, st.hi, st.frame, st.loc, st.cells, st.apart, st.kinds, fun x a? d v e => st.own x a? d v (hw _ _ e), fun x y ax dx ay dy v ex ey => st.apo x y ax dx ay dy v (hw _ _ ex) (hw _ _ ey)⟩
theorem Ex1.weak {Γ₂ : G} {stm : Stmt} {o : Out} (x : Ex1 B k K Γ stm o Γ') (hw : ∀ y sl, Γ₂.lookup y = some sl → Γ'.lookup y = some sl) : Ex1 B k K Γ stm o Γ₂ := .mk fun A env V₀ W s Q E rm eo i st h =>
  x.run A env V₀ W s Q E rm eo i st fun fl s' W' i' d e st' ou => h fl s' W' i' d e (st'.weak hw) ou
theorem Ex.weak {Γ₂ : G} {stm : List Stmt} {o : Out} (x : Ex B k K Γ stm o Γ') (hw : ∀ y sl, Γ₂.lookup y = some sl → Γ'.lookup y = some sl) : Ex B k K Γ stm o Γ₂ := .mk fun A env V₀ W s Q E rm eo i st h =>
  x.run A env V₀ W s Q E rm eo i st fun fl s' W' i' d e st' ou => h fl s' W' i' d e (st'.weak hw) ou
theorem Ex.pre {Γ₂ : G} {stm : List Stmt} {o : Out} (x : Ex B k K Γ₂ stm o Γ') (hw : ∀ y sl, Γ₂.lookup y = some sl → Γ.lookup y = some sl) : Ex B k K Γ stm o Γ' := .mk fun A env V₀ W s Q E rm eo i st h =>
  x.run A env V₀ W s Q E rm eo i (st.weak hw) h
theorem put_same {x : Str} {sl : Slot} (hx : Γ.lookup x = some sl) (y : Str) (sl' : Slot) (e : (put Γ x sl).lookup y = some sl') : Γ.lookup y = some sl' := by
  rw [put_look] at e
  by_cases hy : (y == x) = true
  · rw [if_pos hy] at e; rw [beq_iff_eq.mp hy, hx]; exact e
  · rw [if_neg hy] at e; exact e
theorem occ_empty (x y : Str) : (Builtin.Str.occurrences x y 0 x.length 1).isEmpty = (Builtin.Str.occurrences x y 0 x.length (x.length + 1)).isEmpty := by
  have h1 := PySem.StrLaws.occ_head x y 1 (Nat.le_refl _)
  have h2 := PySem.StrLaws.occ_head x y (x.length + 1) (by omega)
  rcases h1 with ⟨e1, n1⟩ | ⟨i, r, e1, a1, n1⟩ <;> rcases h2 with ⟨e2, n2⟩ | ⟨j, r', e2, a2, n2⟩
  · rw [e1, e2]
  · exact absurd a2 (n1 j)
  · exact absurd a1 (n2 i)
  · rw [e1, e2]; rfl
theorem Meth.replace : Meth "str" "replace" "str.replace" := ⟨PySem.F.plainAttrs_str, PySem.F.slot_str_replace, PySem.F.type_str_replace⟩
theorem Ex1.escape (O : B.Ok) {x : Str} {t c r : Str} {n n' n'' : Nat} {p1 p2 p3 p4 p5 p6 p7 p8 p9 p10 p11 : Pos} (hx : Γ.lookup x = some (.sh (.str t))) (hk : K x = some .local ∨ K x = some .cell)
    (hcr : (c == r) = false := by rfl) (ht : t.length ≤ 1048576) (hr : r.length ≤ 14 := by decide) (hl : (p6.endLine == p9.line) = true := by rfl) (h1 : (x == ("__debug__" : Str)) = false := by decide) (h2 : (x == ("__classdict__" : Str)) = false := by decide)
    (hsw : ∀ env, swapsWithSole [.Name x p4] (.Call (.Attribute (.Name x p5) "replace" p6) [.Constant (.str c) n' p7, .Constant (.str r) n'' p8] [] p9) p10.line env = pure false := by intro _; rfl)
    (hst : ∀ env, swappedStores [.Name x p4] (.Call (.Attribute (.Name x p5) "replace" p6) [.Constant (.str c) n' p7, .Constant (.str r) n'' p8] [] p9) env = pure none := by intro _; rfl)
    (hm : behindInMarks .In (.Name x p2) = false := by rfl) (hb : ∀ env, attributeBase (.Name x p5) "replace" env (eval (.Name x p5) env) = eval (.Name x p5) env := by intro _; rfl) :
    Ex1 B k K Γ (.If (.Compare (.Constant (.str c) n p1) [.In] [.Name x p2] p3) [.Assign [.Name x p4] (.Call (.Attribute (.Name x p5) "replace" p6) [.Constant (.str c) n' p7, .Constant (.str r) n'' p8] [] p9) p10] [] p11) .next (put Γ x (.sh (.str (Txt.replace t c r)))) := .mk fun A env V₀ W s Q E rm eo i st h => by
  refine byEA (st.r.vars x _ hx) fun v l hv => ?_
  obtain ⟨tt, rfl⟩ : ∃ tt, v = .str t tt := hv
  refine wpAny_If (wpAny_isTrue_Compare1 (wpAny_Constant_str (wpAny_Name (loadName_looks eo l h2 (PyProof.Rows.in_str (wpAny_truthy_bool ?_))) h1)) hm)
  have i₁ := i.tok (s.toks + 1)
  cases ho : (Builtin.Str.occurrences t c 0 t.length 1).isEmpty
  · simp only [Bool.not_false, if_true]
    refine wpAny_execs_cons (wpAny_Assign_stores ?_ (hsw env) (hst env))
    refine wpAny_Call_method_lateS (hb env) rfl hl (wpAny_Name (loadName_looks eo l h2 ?_) h1)
    refine ⟨"str", "str.replace", Meth.replace.plain, Meth.replace.slot, Meth.replace.ty, rfl, (fun a e => nomatch e), ?_⟩
    refine callWith_blt (by rfl) (by rfl) ?_
    rw [starEach_cons rfl, starEach_cons rfl, starEach_nil]
    refine Calls.spliced_cons (wpAny_Constant_str (k := n') (pos := p7) (Calls.spliced_cons (wpAny_Constant_str (k := n'') (pos := p8) (Calls.spliced_nil ?_))))
    refine PySem.SC.replaceW (Nat.succ_ne_zero _) (Nat.succ_ne_zero _) (by show s.toks + 1 ≠ s.toks + 1 + 1; omega) hcr ht hr fun t' tk => ?_
    rw [assignEach_cons rfl]
    refine (Asg.name (Γ := Γ) (d := .str (Txt.replace t c r)) (K := K) O hk).run A env V₀ W _ _ _ E rm eo (i.tok tk) st ⟨t', rfl⟩ fun s₂ i₂ d₂ e₂ st₂ => ?_
    exact wpAny_execs_nil (h .next s₂ W i₂ d₂ e₂ st₂ rfl)
  · simp only [Bool.not_true, Bool.false_eq_true, if_false]
    refine wpAny_execs_nil ?_
    have e : Txt.replace t c r = t := by
      unfold Txt.replace
      rw [← occ_empty, ho]; rfl
    rw [e] at h
    exact h .next _ W (i.tok _) (.refl _) (.refl _ _) (st.weak (put_same hx)) rfl
end
end Jv
namespace Jv
open PySem PySem.W PySem.Calls PyProof.Rows
section
variable {B : Base} {k : Nat} {K : Kinds} {Γ Γ' : G} {V V' V₀ W : Addr → Prop} {h h' : Heap} {env : Env} {A : Around} {s : Shared}
noncomputable def runI : Int → Nat → List D
  | _, 0 => []
  | a, n + 1 => .int a :: runI (a + 1) n
theorem inv_extBut (O : B.Ok) {I : Addr} {o : Obj} (inv : Inv B A s) (hs : Heap.ExtBut I s.heap h') (lo : B.n₀ ≤ I) (e : s.heap.get? I = some o) (hc : o.cls ≠ .type "frame") : Inv B A { s with heap := h' } := by
  refine ⟨O.step _ _ inv.good fun b o hb e => hs b o (by rintro rfl; exact absurd lo (Nat.not_le.mpr hb)) e, inv.gens, inv.os, ?_⟩
  refine byEA (inv.fr) fun l e' hl => ?_
  refine ⟨l, e', fun env' he => ?_⟩
  (refine byA (hl env' he) fun hk hr1 => ?_; refine byEE (hr1) fun L o' hr2 => ?_; (try clear hr1); refine byEEAAA (hr2) fun es ep f1 f2 f3 hr3 => ?_; (try clear hr2); refine byA (hr3) fun f4 f5 => ?_; (try clear hr3))
  exact ⟨hk, L, o', es, ep, f1, f2, hs L o' (by rintro rfl; rw [e] at f3; cases f3; exact absurd f4 hc) f3, f4, f5⟩
theorem Iter.range (O : B.Ok) {A : Around} (hh : A.handled = none) {I : Addr} (lo : B.n₀ ≤ I) :
    Iter B A I (fun b => b = I) (fun _ => False) false (fun V ds h => ∃ x n, ds = runI x n ∧ IsRangeIter h I x n 1) (fun V ds v h => ∃ x n, ds = runI x n ∧ IsRangeIter h I x n 1) where
  frame := fun V V' ds h h' hx hv hk => by (refine byEEA (hx) fun x n e hi => ?_; (try clear hx)); exact ⟨x, n, e, hk _ _ hi (.inl rfl)⟩
  item := fun V d ds s Q E inv _ hx hQ => by
    (refine byEEA (hx) fun x n e hi => ?_; (try clear hx))
    cases n with
    | zero => cases e
    | succ n =>
      refine byA (List.cons.inj e) fun e1 e2 => ?_
      subst e1 e2
      refine wpAny_pyNext_range_item (prog := B.prog) (w := B.w) hi (by omega) fun h' hit hs => ?_
      refine hQ _ { s with heap := h', toks := s.toks + 1 } (inv.sameBut O hs lo fun o e => by rw [hi] at e; cases e; simp) ⟨x + 1, n, rfl, ?_⟩ (fun b o e nb => (hs.2 b nb).trans e) ⟨_, rfl⟩
      have e3 : (((n + 1 : Nat) : Int) - 1) = n := by omega
      rw [e3] at hit; exact hit
  done := fun V s Q E inv hx hQ => by
    (refine byEEA (hx) fun x n e hi => ?_; (try clear hx))
    cases n with
    | succ n => cases e
    | zero =>
      refine wpAny_pyNext_range_end (prog := B.prog) (w := B.w) hh hi (by simp) fun h' hs => hQ { s with heap := h' } (inv_extBut O inv hs lo hi (by simp)) fun b o e nb => hs b o nb e
  self := fun V ds s Q E hx hQ => by (refine byEEA (hx) fun x n e hi => ?_; (try clear hx)); exact wpAny_pyIter_rangeiter (prog := B.prog) (w := B.w) hi hQ
  own := fun V ds ts n p v s Q E inv hx hQ => by (refine byEEA (hx) fun x m e hi => ?_; (try clear hx)); exact own_plain hi rfl (by decide) (hQ s inv ⟨x, m, e, hi⟩ fun _ _ e _ => e)
  plain := fun _ _ _ _ _ x => x
  there := fun V ds h b hx q => by (refine byEEA (hx) fun x n e hi => ?_; (try clear hx)); exact ⟨_, q ▸ hi, priv_of (c := "range_iterator") rfl (by decide)⟩
  thereO := fun V ds v h b hx q => by (refine byEEA (hx) fun x n e hi => ?_; (try clear hx)); exact ⟨_, q ▸ hi, priv_of (c := "range_iterator") rfl (by decide)⟩
  data := fun V ds h b _ q => q.elim
theorem range_iter (O : B.Ok) (rm : Room (k + 1) A) {a b : Int} {n : Nat} (hn : (if a < b then b - a else 0) = (n : Int)) (hsm : Builtin.Range.small a b 1 = true) {r : Addr} {t u v : Tok} {Q : Value → Shared → Prop} {E : Value → Shared → Prop} (hr : IsRange s.heap r a b 1 t u v) (inv : Inv B A s)
    (h : ∀ I fp bp St StO s', Inv B A s' → Kp s.heap s'.heap → Iter B A I fp bp false St StO → St V (runI a n) s'.heap → (∀ b, fp b → s.heap.get? b = none) → (∀ b, bp b → False) → Q (.ref I) s') : wpAny B.M A (pyIter (.ref r)) Q E s := by
  have kp : ∀ b' o, s.heap.get? b' = some o → (s.heap.push { cls := .type "range_iterator", data := .fields #[rawInt a, rawInt (Builtin.Range.rangeSize a b 1), rawInt 1] }).get? b' = some o := fun b o e => Heap.get?_push_of_some _ e
  refine wpAny_pyIter_range (prog := B.prog) (w := B.w) hr hsm ?_
  refine h _ _ _ _ _ _ (inv.keep O (tk := s.toks) kp) (.of kp) (Iter.range O (rm.handled (Nat.succ_pos _)) (O.size _ inv.good)) ⟨a, n, rfl, ?_⟩ ?_ (fun _ q => q)
  · have e : Builtin.Range.rangeSize a b 1 = n := by rw [rangeSize_one]; exact hn
    rw [← e]
    exact Heap.get?_push_size _ rfl
  · rintro b rfl
    exact none_size (Nat.le_refl _)
theorem EvI.range2 (O : B.Ok) {p p' : Pos} {ea eb : Expr} {a b : Int} {n : Nat} (bl : BltAt B "range" (.type "range")) (hK : K "range" = some .globalImplicit) (y : EvLB B (k + 1) K Γ [ea, eb] [.int a, .int b]) (hn : (if a < b then b - a else 0) = (n : Int)) (hsm : Builtin.Range.small a b 1 = true)
    (hs : noStars [ea, eb] = true := by rfl) : EvI B (k + 1) K Γ (.Call (.Name "range" p) [ea, eb] [] p') false (runI a n) := .mk fun A env V s Q E rm eo i g h =>
  Call_ (glob_blt O bl hK eo i (callWith_blt (f := .type "range") rfl hs (y.run p' A env V s _ E rm eo i g fun vs s₁ i₁ k₁ l₁ => by
    (refine byEEA (l₁.two) fun v w hq4 hr5 => ?_; subst hq4; refine byA (hr5) fun x z => ?_; (try clear hr5))
    (refine byE (x.asInt) fun t hq6 => ?_; subst hq6)
    (refine byE (z.asInt) fun u hq7 => ?_; subst hq7)
    have kp : ∀ b' o, s₁.heap.get? b' = some o → (s₁.heap.push { cls := .type "range", data := .fields #[.int a t, .int b u, .int 1 s₁.toks] }).get? b' = some o := fun b o e => Heap.get?_push_of_some _ e
    refine call_range_2 (prog := B.prog) (w := B.w) ?_
    refine range_iter (V := V) O rm hn hsm (s := { s₁ with heap := s₁.heap.push { cls := .type "range", data := .fields #[.int a t, .int b u, .int 1 s₁.toks] }, toks := s₁.toks + 1 }) (IsRange.new ..) (i₁.keep O kp) fun I fp bp St StO s' i' k' it st nf nb => ?_
    exact h I fp bp St StO s' i' ((k₁.trans (.of kp)).trans k') it st (fun b q => fresh_of (k₁.trans (.of kp)) (nf b q)) nb)))
theorem EvI.range1 (O : B.Ok) {p p' : Pos} {eb : Expr} {b : Int} {n : Nat} (bl : BltAt B "range" (.type "range")) (hK : K "range" = some .globalImplicit) (y : EvLB B (k + 1) K Γ [eb] [.int b]) (hn : (if 0 < b then b - 0 else 0) = (n : Int)) (hsm : Builtin.Range.small 0 b 1 = true)
    (hs : noStars [eb] = true := by rfl) : EvI B (k + 1) K Γ (.Call (.Name "range" p) [eb] [] p') false (runI 0 n) := .mk fun A env V s Q E rm eo i g h =>
  Call_ (glob_blt O bl hK eo i (callWith_blt (f := .type "range") rfl hs (y.run p' A env V s _ E rm eo i g fun vs s₁ i₁ k₁ l₁ => by
    (refine byEA (l₁.one) fun v hq8 x => ?_; subst hq8)
    (refine byE (x.asInt) fun t hq9 => ?_; subst hq9)
    have kp : ∀ b' o, s₁.heap.get? b' = some o → (s₁.heap.push { cls := .type "range", data := .fields #[.int 0 s₁.toks, .int b t, .int 1 (s₁.toks + 1)] }).get? b' = some o := fun b o e => Heap.get?_push_of_some _ e
    refine call_range_1 (prog := B.prog) (w := B.w) ?_
    refine range_iter (V := V) O rm hn hsm (s := { s₁ with heap := s₁.heap.push { cls := .type "range", data := .fields #[.int 0 s₁.toks, .int b t, .int 1 (s₁.toks + 1)] }, toks := s₁.toks + 1 + 1 }) (IsRange.new ..) (i₁.keep O kp) fun I fp bp St StO s' i' k' it st nf nb => ?_
    exact h I fp bp St StO s' i' ((k₁.trans (.of kp)).trans k') it st (fun b q => fresh_of (k₁.trans (.of kp)) (nf b q)) nb)))
end
end Jv
namespace Jv
open PySem PySem.W PySem.Calls PyProof.Rows
section
variable {B : Base} {k : Nat} {K : Kinds} {Γ Γ' : G} {V V' V₀ W : Addr → Prop} {h h' : Heap} {env : Env} {A : Around} {s : Shared}
noncomputable def numD : Nat → List D → List D
  | _, [] => []
  | i, d :: r => .tup [.int (i : Int), d] :: numD (i + 1) r
theorem inv_off (O : B.Ok) {fp : Addr → Prop} {tk : Nat} (inv : Inv B A s) (x : ∀ b o, s.heap.get? b = some o → ¬ fp b → h'.get? b = some o) (lo : ∀ b, fp b → B.n₀ ≤ b) (hc : ∀ b o, fp b → s.heap.get? b = some o → o.cls ≠ .type "frame") : Inv B A { s with heap := h', toks := tk } := by
  refine ⟨O.step _ _ inv.good fun b o hb e => x b o e (fun f => absurd (lo b f) (Nat.not_le.mpr hb)), inv.gens, inv.os, ?_⟩
  refine byEA (inv.fr) fun l e' hl => ?_
  refine ⟨l, e', fun env' he => ?_⟩
  (refine byA (hl env' he) fun hk hr1 => ?_; refine byEE (hr1) fun L o' hr2 => ?_; (try clear hr1); refine byEEAAA (hr2) fun es ep f1 f2 f3 hr3 => ?_; (try clear hr2); refine byA (hr3) fun f4 f5 => ?_; (try clear hr3))
  exact ⟨hk, L, o', es, ep, f1, f2, x L o' f3 (fun f => hc L o' f f3 f4), f4, f5⟩
theorem Iter.enum (O : B.Ok) {A : Around} (hh : A.handled = none) {I J ax : Addr} {items : Array Value} (hij : I ≠ J) (hai : ax ≠ I) (haj : ax ≠ J) (lo : B.n₀ ≤ I) (lo' : B.n₀ ≤ J) :
    Iter B A I (fun b => b = I ∨ b = J) (fun _ => False) true
      (fun V ds h => ∃ i old rest, ds = numD i rest ∧ IsEnum h I J (i : Int) old ∧ h.IsListIter J ax i ∧ h.IsList ax items ∧ ¬ V ax ∧ Lays B V h rest (items.toList.drop i))
      (fun V ds v h => ∃ i old rest t, v = .ref t ∧ ds = numD i rest ∧ IsEnumOut h I J (i : Int) old t ∧ h.IsListIter J ax i ∧ h.IsList ax items ∧ ¬ V ax ∧ Lays B V h rest (items.toList.drop i)) where
  frame := fun V V' ds h h' hx hv hk => by
    (refine byEE (hx) fun i old hr4 => ?_; (try clear hx); refine byEAAA (hr4) fun rest e h1 h2 hr5 => ?_; (try clear hr4); refine byAA (hr5) fun h3 h4 h5 => ?_; (try clear hr5))
    (refine byEAA (h2) fun oi a1 a2 a3 => ?_; (try clear h2))
    (refine byEAA (h3) fun ol b1 b2 b3 => ?_; (try clear h3))
    refine ⟨i, old, rest, e, hk _ _ h1 (.inl (.inl rfl)), ⟨oi, hk _ _ a1 (.inl (.inr rfl)), a2, a3⟩, ⟨ol, hk _ _ b1 (.inr (.inr ⟨h4, .inl b2⟩)), b2, b3⟩, fun w => ?_, h5.mono fun b o nb e d => ⟨fun w => (hv b w).elim nb (fun z => by rw [e] at z; cases z), hk _ _ e (.inr (.inr ⟨nb, d⟩))⟩⟩
    rcases hv _ w with w | w
    · exact h4 w
    · rw [b1] at w; cases w
  item := fun V d ds s Q E inv dm hx hQ => by
    (refine byEE (hx) fun i old hr6 => ?_; (try clear hx); refine byEAAA (hr6) fun rest e h1 h2 hr7 => ?_; (try clear hr6); refine byAA (hr7) fun h3 h4 h5 => ?_; (try clear hr7))
    cases rest with
    | nil => cases e
    | cons d' rest =>
      refine byA (List.cons.inj e) fun e1 e2 => ?_
      subst e1 e2
      have hl : i < items.size := by
        have := h5.length
        simp at this
        omega
      have e4 : items.toList.drop i = items[i] :: items.toList.drop (i + 1) := by simp [List.drop_eq_getElem_cons, hl]
      rw [e4] at h5
      simp only [Lays] at h5
      (refine byEEAA (h5) fun v r e lv lr => ?_; (try clear h5))
      refine byA (List.cons.inj e) fun ev er => ?_
      subst ev; subst er
      have h2' := h2
      (refine byEAA (h2') fun oJ j1 j2 j3 => ?_; (try clear h2'))
      refine wpAny_pyNext_enum_item (prog := B.prog) (w := B.w) h1 h2 h3 (x := items[i]) (by simp [hl]) hij fun h' he hit ht hz hk => ?_
      have off : ∀ b o, s.heap.get? b = some o → ¬ (b = I ∨ b = J) → h'.get? b = some o := fun b o e nb => hk b o (fun q => nb (.inl q)) (fun q => nb (.inr q)) e
      have nI : ∀ b o, s.heap.get? b = some o → IsData o → ¬ (b = I ∨ b = J) := fun b o e d q => by
        rcases q with rfl | rfl
        · rw [h1] at e; cases e; exact notData_of (c := "enumerate") rfl (by decide) d
        · rw [j1] at e; cases e; exact notData_of j2 (by decide) d
      have keepK : ∀ b o, ¬ V b → s.heap.get? b = some o → IsData o → ¬ V b ∧ h'.get? b = some o := fun b o nb e d => ⟨nb, off b o e (nI b o e d)⟩
      have hsz : s.heap.get? s.heap.objs.size = none := none_size (Nat.le_refl _)
      refine hQ _ _ (inv_off O inv off (fun b q => by rcases q with rfl | rfl <;> assumption) fun b o q e => ?_) ⟨i + 1, _, rest, _, rfl, rfl, he, hit, ?_, h4, lr.mono keepK⟩ off ?_
      · rcases q with rfl | rfl
        · rw [h1] at e; cases e; simp
        · rw [j1] at e; cases e; rw [j2]; simp
      · (refine byEAA (h3) fun ol b1 b2 b3 => ?_; (try clear h3))
        exact ⟨ol, off _ _ b1 (nI _ _ b1 (.inl b2)), b2, b3⟩
      · simp only [Lay]
        refine ⟨_, rfl, fun q => ?_, _, ⟨_, ht⟩, ?_⟩
        · rcases q with q | q | q
          · refine byE (dm _ q) fun o e => ?_; rw [hsz] at e; cases e
          · exact absurd (q ▸ Heap.lt_size h1) (Nat.lt_irrefl _)
          · exact absurd (q ▸ Heap.lt_size j1) (Nat.lt_irrefl _)
        · simp only [Lays]
          refine ⟨_, _, rfl, ⟨_, rfl⟩, _, _, rfl, lv.mono fun b o nb e d => ⟨fun q => q.elim nb (nI b o e d), off b o e (nI b o e d)⟩, rfl⟩
  done := fun V s Q E inv hx hQ => by
    (refine byEE (hx) fun i old hr8 => ?_; (try clear hx); refine byEAAA (hr8) fun rest e h1 h2 hr9 => ?_; (try clear hr8); refine byAA (hr9) fun h3 h4 h5 => ?_; (try clear hr9))
    cases rest with
    | cons d' rest => cases e
    | nil =>
      simp only [Lays] at h5
      have hl : items.size ≤ i := by simpa using h5
      refine byEAA (id h2) fun oJ j1 j2 j3 => ?_
      refine wpAny_pyNext_enum_end (prog := B.prog) (w := B.w) hh h1 h2 h3 (by simp [hl]) fun h' hs => hQ { s with heap := h' } (inv_extBut O inv hs lo' j1 (by rw [j2]; simp)) fun b o e nb => hs b o (fun q => nb (.inr q)) e
  self := fun V ds s Q E hx hQ => by (refine byEE (hx) fun i old hr10 => ?_; (try clear hx); refine byEAA (hr10) fun rest e h1 _ => ?_; (try clear hr10)); exact wpAny_pyIter_enum (prog := B.prog) (w := B.w) h1 hQ
  own := fun V ds ts n p v s Q E inv hx hQ => by
    (refine byEE (hx) fun i old hr11 => ?_; (try clear hx); refine byEEAAA (hr11) fun rest t ev e h1 hr12 => ?_; (try clear hr11); refine byAAA (hr12) fun h2 h3 h4 h5 => ?_; (try clear hr12))
    subst ev
    refine byEAA (id h2) fun oJ j1 j2 j3 => ?_
    refine wpAny_letOwnedTupleGo_enum (prog := B.prog) (w := B.w) h1 fun h' he hs => ?_
    have off : ∀ b o, s.heap.get? b = some o → ¬ (b = I ∨ b = J) → h'.get? b = some o := fun b o e nb => (hs.2 b fun q => nb (.inl q)).trans e
    have nI : ∀ b o, s.heap.get? b = some o → IsData o → ¬ (b = I ∨ b = J) := fun b o e d q => by
      rcases q with rfl | rfl
      · rw [h1] at e; cases e; exact notData_of (c := "enumerate") rfl (by decide) d
      · rw [j1] at e; cases e; exact notData_of j2 (by decide) d
    refine hQ { s with heap := h' } (inv.sameBut O (tk := s.toks) hs lo fun o e => by rw [h1] at e; cases e; simp) ⟨i, old, rest, e, he, ⟨oJ, (hs.2 J (Ne.symm hij)).trans j1, j2, j3⟩, ?_, h4, h5.mono fun b o nb e d => ⟨nb, off b o e (nI b o e d)⟩⟩ off
    (refine byEAA (h3) fun ol b1 b2 b3 => ?_; (try clear h3))
    exact ⟨ol, off _ _ b1 (nI _ _ b1 (.inl b2)), b2, b3⟩
  plain := fun e => nomatch e
  there := fun V ds h b hx q => by
    (refine byEE (hx) fun i old hr13 => ?_; (try clear hx); refine byEAAA (hr13) fun rest e h1 hp14 _ => ?_; (try clear hr13); obtain ⟨oJ, j1, j2, j3⟩ := hp14)
    rcases q with rfl | rfl
    · exact ⟨_, h1, priv_of (c := "enumerate") rfl (by decide)⟩
    · exact ⟨_, j1, priv_of j2 (by decide)⟩
  thereO := fun V ds v h b hx q => by
    (refine byEE (hx) fun i old hr15 => ?_; (try clear hx); refine byEEAAA (hr15) fun rest t ev e h1 hr16 => ?_; (try clear hr15); refine byA (hr16) fun hp17 _ => ?_; (try clear hr16); obtain ⟨oJ, j1, j2, j3⟩ := hp17)
    rcases q with rfl | rfl
    · exact ⟨_, h1, priv_of (c := "enumerate") rfl (by decide)⟩
    · exact ⟨_, j1, priv_of j2 (by decide)⟩
  data := fun V ds h b _ q => q.elim
theorem EvI.enum (O : B.Ok) {p p' : Pos} {e : Expr} {ds : List D} (bl : BltAt B "enumerate" (.type "enumerate")) (hK : K "enumerate" = some .globalImplicit) (y : EvL B (k + 1) K Γ [e] [.list ds])
    (hs : noStars [e] = true := by rfl) : EvI B (k + 1) K Γ (.Call (.Name "enumerate" p) [e] [] p') true (numD 0 ds) := .mk fun A env V s Q E rm eo i g h =>
  Call_ (glob_blt O bl hK eo i (callWith_blt (f := .type "enumerate") rfl hs (y.run p' A env V s _ E rm eo i g fun vs s₁ i₁ k₁ l₁ => by
    simp only [Lays, Lay] at l₁
    (refine byEEA (l₁) fun v r hq18 hr19 => ?_; (try clear l₁); subst hq18; refine byA (hr19) fun hp20 hq21 => ?_; (try clear hr19); obtain ⟨a, rfl, na, items, il, ls⟩ := hp20; subst hq21)
    refine call_enumerate_list (prog := B.prog) (w := B.w) il.isList fun h' he hit hz kp => ?_
    have lo := O.size _ i₁.good
    have i₂ : Inv B A { s₁ with heap := h' } := i₁.keep O (tk := s₁.toks) kp
    refine wpAny_pyIter_enum (prog := B.prog) (w := B.w) (s := { s₁ with heap := h' }) he ?_
    (refine byE (il) fun n ho => ?_; (try clear il))
    have la := Heap.lt_size ho
    refine h _ _ _ _ _ { s₁ with heap := h' } i₂ (k₁.trans (.of kp)) (Iter.enum O (rm.handled (Nat.succ_pos _)) (items := items) (ax := a) (Nat.succ_ne_self _) (Nat.ne_of_lt (Nat.lt_succ_of_lt la)) (Nat.ne_of_lt la) (Nat.le_succ_of_le lo) lo) ⟨0, _, ds, rfl, he, hit, ⟨_, kp _ _ ho, rfl, n, rfl⟩, na, ls.kp (.of kp)⟩ (fun b q => ?_) fun _ q => q
    refine fresh_of k₁ ?_
    rcases q with rfl | rfl
    · exact none_size (Nat.le_succ _)
    · exact none_size (Nat.le_refl _))))
end
end Jv
namespace Jv
open PySem PySem.W PySem.Calls PyProof.Rows
section
variable {B : Base} {k : Nat} {K : Kinds} {Γ Γ' : G} {V V' V₀ W : Addr → Prop} {h h' : Heap} {env : Env} {A : Around} {s : Shared}
end
end Jv
namespace Jv
open PySem PySem.W PySem.Calls PyProof.Rows
noncomputable def strLe (a b : Str) : Bool := decide (¬ b.cps.toList < a.cps.toList)
noncomputable def sortS (l : List Str) : List Str := l.mergeSort strLe
theorem strLe_iff {a b : Str} : strLe a b = true ↔ a.cps.toList ≤ b.cps.toList := by unfold strLe; rw [decide_eq_true_iff]; exact Iff.rfl
theorem strLe_trans (a b c : Str) (x : strLe a b = true) (y : strLe b c = true) : strLe a c = true := strLe_iff.mpr (List.le_trans (strLe_iff.mp x) (strLe_iff.mp y))
theorem strLe_total (a b : Str) : (strLe a b || strLe b a) = true := by
  rw [Bool.or_eq_true, strLe_iff, strLe_iff]; exact List.le_total _ _
theorem strLe_anti {a b : Str} (x : strLe a b = true) (y : strLe b a = true) : a = b := by
  have := List.le_antisymm (strLe_iff.mp x) (strLe_iff.mp y)
  cases a; cases b; simp only [Str.mk.injEq]; exact Array.toList_inj.mp this
theorem sortS_perm (l : List Str) : (sortS l).Perm l := List.mergeSort_perm l strLe
theorem sortS_sorted (l : List Str) : (sortS l).Pairwise fun a b => strLe a b = true := List.pairwise_mergeSort strLe_trans strLe_total l
theorem sortS_unique {l r : List Str} (p : r.Perm l) (h : r.Pairwise fun a b => strLe a b = true) : r = sortS l :=
  List.Perm.eq_of_pairwise (fun a b _ _ x y => strLe_anti x y) h (sortS_sorted l) (p.trans (sortS_perm l).symm)
theorem rising_pair : ∀ (l : List Str) (p : Str), risingS p l = true → (p :: l).Pairwise fun a b => strLe a b = true
  | [], p, _ => List.pairwise_singleton _ _
  | x :: r, p, h => by
    have h' : (!PySem.Spec.ltCps x.cps.toList p.cps.toList && risingS x r) = true := h
    rw [Bool.and_eq_true] at h'
    have ih := rising_pair r x h'.2
    have px : strLe p x = true := by
      rw [strLe_iff]
      have := h'.1
      rw [ltCps_eq, Bool.not_eq_true', decide_eq_false_iff_not] at this
      exact this
    refine List.pairwise_cons.mpr ⟨fun y hy => ?_, ih⟩
    rcases List.mem_cons.mp hy with rfl | hy
    · exact px
    · exact strLe_trans _ _ _ px ((List.pairwise_cons.mp ih).1 y hy)
theorem sorted_pair (l : List Str) (h : sortedS l = true) : l.Pairwise fun a b => strLe a b = true := by
  cases l with
  | nil => exact List.Pairwise.nil
  | cons x r => exact rising_pair r x h
section
variable {B : Base} {k : Nat} {K : Kinds} {Γ Γ' : G} {V V' V₀ W : Addr → Prop} {h h' : Heap} {env : Env} {A : Around} {s : Shared}
theorem strsAre_of : ∀ {l : List Str} {vs : List Value}, Lays B V h (sl l) vs → StrsAre vs l
  | [], vs, x => by simp only [sl, List.map_nil, Lays] at x; subst x; exact .nil
  | y :: l, vs, x => by
    have x' : Lays B V h (.str y :: sl l) vs := x
    simp only [Lays] at x'
    (refine byEEA (x') fun v r hq1 hr2 => ?_; (try clear x'); subst hq1; refine byA (hr2) fun hp3 q => ?_; (try clear hr2); obtain ⟨t, rfl⟩ := hp3)
    exact .cons y t (strsAre_of q)
theorem lays_strsAre : ∀ {l : List Str} {vs : List Value}, StrsAre vs l → Lays B V h (sl l) vs
  | _, _, .nil => by simp [sl, Lays]
  | _, _, .cons y t (ys := l) r => by
    show Lays B V h (.str y :: sl l) _
    simp only [Lays]
    exact ⟨_, _, rfl, ⟨t, rfl⟩, lays_strsAre r⟩
noncomputable def il (l : List Int) : List D := l.map .int
theorem intsAre_of : ∀ {l : List Int} {vs : List Value}, Lays B V h (il l) vs → IntsAre vs l
  | [], vs, x => by simp only [il, List.map_nil, Lays] at x; subst x; exact .nil
  | y :: l, vs, x => by
    have x' : Lays B V h (.int y :: il l) vs := x
    simp only [Lays] at x'
    (refine byEEA (x') fun v r hq4 hr5 => ?_; (try clear x'); subst hq4; refine byA (hr5) fun hp6 q => ?_; (try clear hr5); obtain ⟨t, rfl⟩ := hp6)
    exact .cons y t (intsAre_of q)
theorem lays_intsAre : ∀ {l : List Int} {vs : List Value}, IntsAre vs l → Lays B V h (il l) vs
  | _, _, .nil => by simp [il, Lays]
  | _, _, .cons y t (ns := l) r => by
    show Lays B V h (.int y :: il l) _
    simp only [Lays]
    exact ⟨_, _, rfl, ⟨t, rfl⟩, lays_intsAre r⟩
theorem made (O : B.Ok) (i : Inv B A s) {a : Addr} {ds : List D} {items : Array Value} {n tk : Nat} (k : ∀ b o, s.heap.get? b = some o → h'.get? b = some o) (na : s.heap.get? a = none) (ha : s.heap.objs.size ≤ a) (e : h'.get? a = some { cls := .type "list", data := .seq items n }) (l : ∀ V : Addr → Prop, Lays B V h' ds items.toList) :
    Inv B A { s with heap := h', toks := tk } ∧ Kp s.heap h' ∧ s.heap.get? a = none ∧ B.n₀ ≤ a ∧ Content B (fun b => V b ∨ b = a) h' (.list ds) a :=
  ⟨i.keep O k, .of k, na, Nat.le_trans (O.size _ i.good) ha, items, ⟨n, e⟩, l _⟩
theorem BltF.sortedS (O : B.Ok) {l : List Str} (hz : l.length < 64) : BltF B k (.builtin "sorted") [.list (sl l)] (.list (sl (sortS l))) := fun A V s vs Q E rm i dm ls h => by
  (refine byEA (ls.one) fun v hq7 x => ?_; subst hq7)
  (refine byEEA (x.asList) fun a it hq8 hr9 => ?_; subst hq8; refine byA (hr9) fun p q => ?_; (try clear hr9))
  have hl : it.toList.length < 64 := by rw [q.length]; simpa [sl] using hz
  refine sorted_strs (prog := B.prog) (w := B.w) (vs := it.toList) (ss := l) (by simpa using p.isList) (strsAre_of q) hl fun out ss' e1 e2 e3 => ?_
  refine byE (sortedAll_at s.heap it.toList out) fun e he => ?_
  have es := sortS_unique e2 (sorted_pair ss' e3)
  subst es
  refine byAAAA (made (V := V) (ds := sl (sortS l)) O i (tk := s.toks) (fun b o => sortedAll_old) (none_size (Nat.le_succ _)) (Nat.le_succ _) he fun V => lays_strsAre e1) fun a1 a2 a3 a4 a5 => ?_
  exact h _ _ a1 a2 a3 a4 a5
noncomputable def vals (l : List (Str × Str)) : List (Str × D) := l.map fun p => (p.1, .str p.2)
end
end Jv
namespace Jv
open PySem PySem.W PySem.Calls PyProof.Rows
section
variable {prog : Program} {w : World} {A : Around} {E : Value → Shared → Prop} {s : Shared} 
theorem sub_str_str : isSubtype (.type "str") (.type "str") = pure true := by rw [isSubtype_type]; kernel_rfl
theorem sub_tup_tup : isSubtype (.type "tuple") (.type "tuple") = pure true := by rw [isSubtype_type]; kernel_rfl
theorem entry_issub_nested : entryFor table "issubclass.nested" = some Builtin.«issubclass.nested» := entryFor_of_tree (by kernel_rfl)
theorem kind_issub_nested : builtinKind "issubclass.nested" = none := by decide +kernel
theorem plain_issub_nested : plainId "issubclass.nested" = true := by decide +kernel
theorem args_issub_nested (a b c : Value) : argsOk "issubclass.nested" ⟨[a, b, c], []⟩ := by unfold argsOk; kernel_rfl
theorem issub_nested {k : Value} {dep : Int} {tk : Tok} {Q : PySem.Fin → Shared → Prop} (hk : k = .int dep tk) 
    (hq : Q (.done (.ret (.bool true))) s) :
    wpAny (model prog w) A (Builtin.«issubclass.nested» ⟨[.type "str", .type "str", k], []⟩) Q E s := by
  subst hk
  have f1 := sub_str_str
  repeat (any_goals (first | assumption | (rw [f1]) | wp_step))
theorem issub_call {Q : Value → Shared → Prop} (hq : Q (.bool true) s) : wpAny (model prog w) A (call (.builtin "issubclass.nested") [.type "str", .type "str", rawInt 1]) Q E s :=
  call_function_entry kind_issub_nested plain_issub_nested entry_issub_nested (args_issub_nested _ _ _) (issub_nested rfl ⟨_, rfl, hq⟩)
theorem issub_tup {t : Addr} {n : Nat} {Q : PySem.Fin → Shared → Prop} (ho : s.heap.get? t = some { cls := .type "tuple", data := .seq #[.type "str", .type "bytes"] n })
    (hq : Q (.done (.ret (.bool true))) s) :
    wpAny (model prog w) A (Builtin.«issubclass.nested» ⟨[.type "str", .ref t, rawInt 0], []⟩) Q E s := by
  unfold Builtin.«issubclass.nested»
  have hT : s.TypeIs (.ref t) "tuple" := ⟨_, ho, rfl⟩
  refine wpAny_bind (wpAny_typeOf hT ?_)
  rw [if_neg (by decide)]
  refine wpAny_bind ?_
  unfold Builtin.Builtins.unionMembers
  refine wpAny_bind (wpAny_typeOf hT ?_)
  rw [if_neg (by decide)]
  refine wpAny_pure ?_
  refine wpAny_bind (wpAny_isInstance hT sub_tup_tup ?_)
  rw [if_pos rfl]
  rw [if_neg (by decide)]
  refine wpAny_bind (wpAny_seqItems ho rfl ?_)
  simp only [Option.getD_some, List.forIn_toArray]
  rw [List.forIn_cons]
  refine wpAny_bind (wpAny_bind (wpAny_bind (issub_call (wpAny_bind (wpAny_truthy_bool ?_)))))
  rw [if_pos rfl]
  exact wpAny_bind (wpAny_pure (wpAny_pure (wpAny_pure (wpAny_pure hq))))
theorem call_issub {t : Addr} {n : Nat} {Q : Value → Shared → Prop} (ho : s.heap.get? t = some { cls := .type "tuple", data := .seq #[.type "str", .type "bytes"] n }) (hq : Q (.bool true) s) :
    wpAny (model prog w) A (call (.builtin "issubclass") [.type "str", .ref t]) Q E s :=
  call_issubclass (S := fun A R s => s.heap.get? t = some { cls := .type "tuple", data := .seq #[.type "str", .type "bytes"] n } ∧ R (.ok (.ret (.bool true))) s) (fun _ _ _ _ _ hs => issubclass_outer (issub_tup hs.1 hs.2)) ⟨ho, hq⟩
end
section
variable {B : Base} {k : Nat} {K : Kinds} {Γ Γ' : G} {V V' V₀ W : Addr → Prop} {h h' : Heap} {env : Env} {A : Around} {s : Shared}
theorem LayB.asTy {T : String} {v : Value} (x : LayB B V h (.ty T) v) : v = .type T := by
  rcases x with x | ⟨a, e, c⟩
  · exact x
  · exact c.elim
theorem Ev.tyName (O : B.Ok) {x : Str} {T : String} {p : Pos} (b : BltAt B x (.type T)) (hK : K x = some .globalImplicit) (hd : (x == ("__debug__" : Str)) = false := by decide) : Ev B k K Γ (.Name x p) (.ty T) := .mk fun A env V s Q E rm eo i g h =>
  glob_blt O b hK eo i (h _ s i (.refl _) rfl) hd
theorem BltR.typeStr {x : Str} : BltR B k (.type "type") [.str x] (.ty "str") := fun A V s vs Q E rm i dm ls h => by
  (refine byEA (ls.one) fun v hq1 a => ?_; subst hq1)
  (refine byE (a.asStr) fun t hq2 => ?_; subst hq2)
  exact call_type_of (typeIs_str s x t) (by decide) (h _ s i (.refl _) rfl)
theorem BltR.issub : BltR B k (.builtin "issubclass") [.ty "str", .tup [.ty "str", .ty "bytes"]] (.bool true) := fun A V s vs Q E rm i dm ls h => by
  (refine byEEA (ls.two) fun v w hq3 hr4 => ?_; subst hq3; refine byA (hr4) fun a b => ?_; (try clear hr4))
  obtain rfl := a.asTy
  (refine byEEA (b.asTup) fun t it hq5 hr6 => ?_; subst hq5; refine byA (hr6) fun hp7 q => ?_; (try clear hr6); obtain ⟨n, ho⟩ := hp7)
  simp only [Lays, Lay] at q
  (refine byEEAA (q) fun v1 r1 e1 hq8 hr9 => ?_; (try clear q); subst hq8; refine byEEA (hr9) fun v2 r2 hq10 hr11 => ?_; (try clear hr9); subst hq10; refine byA (hr11) fun hq12 hq13 => ?_; (try clear hr11); subst hq12; subst hq13)
  have e : it = #[.type "str", .type "bytes"] := by
    apply Array.toList_inj.mp; rw [e1]
  subst e
  exact call_issub ho (h _ s i (.refl _) rfl)
theorem BltR.isinstStr {x : Str} {T : String} {b : Bool} (hc : ∀ (prog : Program) (w : World) (A : Around) (E : Value → Shared → Prop) (s : Shared) (t : Tok) (Q : Value → Shared → Prop), (∀ tk, Q (.bool b) { s with toks := tk }) → wpAny (model prog w) A (call (.builtin "isinstance") [.str x t, .type T]) Q E s) :
    BltR B k (.builtin "isinstance") [.str x, .ty T] (.bool b) := fun A V s vs Q E rm i dm ls h => by
  (refine byEEA (ls.two) fun v w hq14 hr15 => ?_; subst hq14; refine byA (hr15) fun a c => ?_; (try clear hr15))
  (refine byE (a.asStr) fun t hq16 => ?_; subst hq16)
  obtain rfl := c.asTy
  exact hc _ _ _ _ _ _ _ fun tk => h _ _ (i.tok tk) (.refl _) rfl
theorem BltR.isBytes {x : Str} : BltR B k (.builtin "isinstance") [.str x, .ty "bytes"] (.bool false) := .isinstStr fun _ _ _ _ _ _ _ h => PySem.IsiPair.str_bytes (h _)
theorem BltR.lenStr {x : Str} (hz : x.length ≤ sizeLine) : BltR B k (.builtin "len") [.str x] (.int x.length) := fun A V s vs Q E rm i dm ls h => by
  (refine byEA (ls.one) fun v hq17 a => ?_; subst hq17)
  (refine byE (a.asStr) fun t hq18 => ?_; subst hq18)
  have big : sizeLine = 16777216 := rfl
  exact PyProof.Rows.len_str (by omega) (h _ _ (i.tok _) (.refl _) ⟨_, rfl⟩)
theorem BltR.lenList {l : List D} (hz : l.length ≤ sizeLine) : BltR B k (.builtin "len") [.list l] (.int l.length) := fun A V s vs Q E rm i dm ls h => by
  (refine byEA (ls.one) fun v hq19 x => ?_; subst hq19)
  (refine byEEA (x.asList) fun a it hq20 hr21 => ?_; subst hq20; refine byA (hr21) fun p q => ?_; (try clear hr21))
  have z1 : it.size = l.length := by rw [← q.length]; simp
  have big : sizeLine = 16777216 := rfl
  exact call_len_list p.isList (by omega) (h _ _ (i.tok _) (.refl _) ⟨_, by rw [z1]⟩)
theorem BltR.divmod (O : B.Ok) {a b : Int} (hb : b ≠ 0) (hp : Builtin.divisionGoesByPylong a b = false) : BltR B k (.builtin "divmod") [.int a, .int b] (.tup [.int (a.fdiv b), .int (a.fmod b)]) := fun A V s vs Q E rm i dm ls h => by
  (refine byEEA (ls.two) fun v w hq22 hr23 => ?_; subst hq22; refine byA (hr23) fun x y => ?_; (try clear hr23))
  (refine byE (x.asInt) fun t hq24 => ?_; subst hq24)
  (refine byE (y.asInt) fun u hq25 => ?_; subst hq25)
  have kp : ∀ b' o, s.heap.get? b' = some o → (s.heap.push { cls := .type "tuple", data := .seq #[.int (a.fdiv b) s.toks, .int (a.fmod b) (s.toks + 1)] }).get? b' = some o := fun b o e => Heap.get?_push_of_some _ e
  refine divmod_int (prog := B.prog) (w := B.w) hb (h _ _ (i.keep O kp) (.of kp) ?_) (.inl hp)
  simp only [Lay]
  refine ⟨_, rfl, fun q => ?_, _, ⟨_, Heap.get?_push_size _ rfl⟩, ?_⟩
  · refine byEA (dm _ q) fun o e _ => ?_
    exact absurd (Heap.lt_size e) (Nat.lt_irrefl _)
  · simp only [Lays]
    exact ⟨_, _, rfl, ⟨_, rfl⟩, _, _, rfl, ⟨_, rfl⟩, rfl⟩
end
end Jv
namespace Jv
open PySem PySem.W PySem.Calls PyProof.Rows
open AutoSeq1 (wpAny_loadPart')
open MeetsSeq MeetsSeq2 MeetsSeq3 SeqRoads2
noncomputable def ltS (x y : Str) : Bool := decide (x.cps.toList < y.cps.toList)
noncomputable def ltL : List Str → List Str → Bool
  | [], [] => false
  | [], _ :: _ => true
  | _ :: _, [] => false
  | x :: l, y :: r => if x = y then ltL l r else ltS x y
theorem sv_get (xs : List (Str × Tok)) (i : Nat) : (strValues xs).toArray[((i : Nat) : Int).toNat]? = (xs[i]?).map fun p => Value.str p.1 p.2 := by
  simp [strValues]
theorem dropM {xs : List (Str × Tok)} {i : Nat} (h : xs.length ≤ i) : (xs.map (·.1)).drop i = [] := List.drop_of_length_le (by rw [List.length_map]; exact h)
theorem lt_loop (a b : Addr) (n n2 : Nat) (xs ys : List (Str × Tok)) : ∀ (k : Nat) (i : Nat), xs.length - i = k → Meets (Builtin.«list.__eq__.loop» ⟨[.ref a, .ref b, rawInt i, rawInt 0], []⟩)
      (fun A R s => s.heap.get? a = some { cls := .type "list", data := .seq (strValues xs).toArray n } ∧ s.heap.get? b = some { cls := .type "list", data := .seq (strValues ys).toArray n2 } ∧
        i ≤ xs.length ∧ i ≤ ys.length ∧ R (.ok (.ret (.bool (ltL ((xs.map (·.1)).drop i) ((ys.map (·.1)).drop i))))) s) := by
  have szx : (strValues xs).toArray.size = xs.length := by simp [strValues]
  have szy : (strValues ys).toArray.size = ys.length := by simp [strValues]
  intro k
  induction k with
  | zero =>
    intro i hk prog w A R s h
    obtain ⟨hp, g, d, tk, os⟩ := s; refine byAAAA (h) fun hl hb h1 h2 h => ?_
    wp_walk using wpAny_loadPart' hl, wpAny_loadPart' hb
    have hk : xs.length ≤ i := Nat.le_of_sub_eq_zero hk
    have hi1 : xs[i]? = none := List.getElem?_eq_none hk
    rw [sv_get, sv_get, hi1]
    have e1 : (xs.map (·.1)).drop i = [] := dropM hk
    rw [e1] at h
    wp_walk using wpAny_loadPart' hl, wpAny_loadPart' hb
    show R (.ok (.ret (.bool (decide ((strValues xs).toArray.size < (strValues ys).toArray.size))))) _
    rw [szx, szy]
    cases hy : (ys.map (·.1)).drop i with
    | nil =>
      have : ys.length ≤ i := by simpa using hy
      rw [hy] at h
      rw [decide_eq_false (Nat.not_lt.mpr (Nat.le_trans this h1))]
      exact h
    | cons y r =>
      have : i < ys.length := by
        exact Nat.not_le.mp fun q => by rw [dropM q] at hy; cases hy
      rw [hy] at h
      rw [decide_eq_true (Nat.lt_of_le_of_lt hk this)]
      exact h
  | succ k ih =>
    intro i hk prog w A R s h
    obtain ⟨hp, g, d, tk, os⟩ := s; refine byAAAA (h) fun hl hb h1 h2 h => ?_
    wp_walk using wpAny_loadPart' hl, wpAny_loadPart' hb
    have hlt : i < xs.length := Nat.lt_of_sub_eq_succ hk
    have hi1 : xs[i]? = some xs[i] := List.getElem?_eq_getElem hlt
    have e1 : (xs.map (·.1)).drop i = xs[i].1 :: (xs.map (·.1)).drop (i + 1) := by rw [List.drop_eq_getElem_cons (by simpa using hlt)]; simp
    rw [sv_get, sv_get, hi1]
    rw [e1] at h
    by_cases hlt2 : i < ys.length
    · have hi2 : ys[i]? = some ys[i] := List.getElem?_eq_getElem hlt2
      have e2 : (ys.map (·.1)).drop i = ys[i].1 :: (ys.map (·.1)).drop (i + 1) := by rw [List.drop_eq_getElem_cons (by simpa using hlt2)]; simp
      rw [hi2]
      rw [e2] at h
      have hc : ((i : Int) + 1) = ((i + 1 : Nat) : Int) := by push_cast; rfl
      refine wpAny_bind (PySem.SeqAt.EqAt.str_str _ _ _ _ prog w _ _ ?_)
      by_cases he : xs[i].1 = ys[i].1
      · rw [show (xs[i].1 == ys[i].1) = true by simpa using he]
        simp only [ltL, he, if_true] at h
        wp_walk
        rw [hc]
        exact ⟨plainId_quiet plain_eq_loop _, codeAny_builtin entry_eq_loop (by
          rw [Around.under_plainId plain_eq_loop _]
          exact ih (i + 1) (by rw [Nat.sub_succ, hk]; rfl) prog w A R _ ⟨hl, hb, hlt, hlt2, h⟩)⟩
      · rw [show (xs[i].1 == ys[i].1) = false by simpa using he]
        simp only [ltL, he, if_false] at h
        wp_walk using wpAny_loadPart' hl, wpAny_loadPart' hb
        rw [sv_get, sv_get, hi1, hi2]
        refine wpAny_bind (PyProof.Rows.lt_str ?_)
        exact wpAny_pure h
    · have hi2 : ys[i]? = none := List.getElem?_eq_none (Nat.not_lt.mp hlt2)
      have e2 : (ys.map (·.1)).drop i = [] := dropM (Nat.not_lt.mp hlt2)
      rw [hi2]
      rw [e2] at h
      wp_walk using wpAny_loadPart' hl, wpAny_loadPart' hb
      show R (.ok (.ret (.bool (decide ((strValues xs).toArray.size < (strValues ys).toArray.size))))) _
      rw [szx, szy, decide_eq_false (Nat.not_lt.mpr (Nat.le_trans (Nat.not_lt.mp hlt2) h1))]
      exact h
theorem gt_loop (a b : Addr) (n n2 : Nat) (xs ys : List (Str × Tok)) : ∀ (k : Nat) (i : Nat), xs.length - i = k → Meets (Builtin.«list.__eq__.loop» ⟨[.ref a, .ref b, rawInt i, rawInt 4], []⟩)
      (fun A R s => s.heap.get? a = some { cls := .type "list", data := .seq (strValues xs).toArray n } ∧ s.heap.get? b = some { cls := .type "list", data := .seq (strValues ys).toArray n2 } ∧
        i ≤ xs.length ∧ i ≤ ys.length ∧ R (.ok (.ret (.bool (ltL ((ys.map (·.1)).drop i) ((xs.map (·.1)).drop i))))) s) := by
  have szx : (strValues xs).toArray.size = xs.length := by simp [strValues]
  have szy : (strValues ys).toArray.size = ys.length := by simp [strValues]
  intro k
  induction k with
  | zero =>
    intro i hk prog w A R s h
    obtain ⟨hp, g, d, tk, os⟩ := s; refine byAAAA (h) fun hl hb h1 h2 h => ?_
    wp_walk using wpAny_loadPart' hl, wpAny_loadPart' hb
    have hk : xs.length ≤ i := Nat.le_of_sub_eq_zero hk
    have hi1 : xs[i]? = none := List.getElem?_eq_none hk
    rw [sv_get, sv_get, hi1]
    have e1 : (xs.map (·.1)).drop i = [] := dropM hk
    rw [e1] at h
    wp_walk using wpAny_loadPart' hl, wpAny_loadPart' hb
    show R (.ok (.ret (.bool (decide ((strValues xs).toArray.size > (strValues ys).toArray.size))))) _
    rw [szx, szy]
    cases hy : (ys.map (·.1)).drop i with
    | nil =>
      have : ys.length ≤ i := by simpa using hy
      rw [hy] at h
      rw [decide_eq_false (Nat.not_lt.mpr (Nat.le_trans hk h2))]
      exact h
    | cons y r =>
      have : i < ys.length := by
        exact Nat.not_le.mp fun q => by rw [dropM q] at hy; cases hy
      rw [hy] at h
      rw [decide_eq_false (Nat.not_lt.mpr (Nat.le_trans hk h2))]
      exact h
  | succ k ih =>
    intro i hk prog w A R s h
    obtain ⟨hp, g, d, tk, os⟩ := s; refine byAAAA (h) fun hl hb h1 h2 h => ?_
    wp_walk using wpAny_loadPart' hl, wpAny_loadPart' hb
    have hlt : i < xs.length := Nat.lt_of_sub_eq_succ hk
    have hi1 : xs[i]? = some xs[i] := List.getElem?_eq_getElem hlt
    have e1 : (xs.map (·.1)).drop i = xs[i].1 :: (xs.map (·.1)).drop (i + 1) := by rw [List.drop_eq_getElem_cons (by simpa using hlt)]; simp
    rw [sv_get, sv_get, hi1]
    rw [e1] at h
    by_cases hlt2 : i < ys.length
    · have hi2 : ys[i]? = some ys[i] := List.getElem?_eq_getElem hlt2
      have e2 : (ys.map (·.1)).drop i = ys[i].1 :: (ys.map (·.1)).drop (i + 1) := by rw [List.drop_eq_getElem_cons (by simpa using hlt2)]; simp
      rw [hi2]
      rw [e2] at h
      have hc : ((i : Int) + 1) = ((i + 1 : Nat) : Int) := by push_cast; rfl
      refine wpAny_bind (PySem.SeqAt.EqAt.str_str _ _ _ _ prog w _ _ ?_)
      by_cases he : xs[i].1 = ys[i].1
      · rw [show (xs[i].1 == ys[i].1) = true by simpa using he]
        rw [ltL, if_pos he.symm] at h
        wp_walk
        rw [hc]
        exact ⟨plainId_quiet plain_eq_loop _, codeAny_builtin entry_eq_loop (by
          rw [Around.under_plainId plain_eq_loop _]
          exact ih (i + 1) (by rw [Nat.sub_succ, hk]; rfl) prog w A R _ ⟨hl, hb, hlt, hlt2, h⟩)⟩
      · rw [show (xs[i].1 == ys[i].1) = false by simpa using he]
        rw [ltL, if_neg (Ne.symm he)] at h
        wp_walk using wpAny_loadPart' hl, wpAny_loadPart' hb
        rw [sv_get, sv_get, hi1, hi2]
        refine wpAny_bind (PySem.P.gt_str ?_)
        exact wpAny_pure h
    · have hi2 : ys[i]? = none := List.getElem?_eq_none (Nat.not_lt.mp hlt2)
      have e2 : (ys.map (·.1)).drop i = [] := dropM (Nat.not_lt.mp hlt2)
      rw [hi2]
      rw [e2] at h
      wp_walk using wpAny_loadPart' hl, wpAny_loadPart' hb
      show R (.ok (.ret (.bool (decide ((strValues xs).toArray.size > (strValues ys).toArray.size))))) _
      rw [szx, szy, decide_eq_true (Nat.lt_of_le_of_lt (Nat.not_lt.mp hlt2) hlt)]
      exact h
section
variable {prog : Program} {w : World} {A : Around} {E : Value → Shared → Prop} {s : Shared}
theorem list_ltAt (a b : Addr) (n n2 : Nat) (xs ys : List (Str × Tok)) : Meets (Builtin.«list.__lt__» ⟨[.ref a, .ref b], []⟩)
      (fun A R s => s.heap.get? a = some { cls := .type "list", data := .seq (strValues xs).toArray n } ∧ s.heap.get? b = some { cls := .type "list", data := .seq (strValues ys).toArray n2 } ∧
        R (.ok (.ret (.bool (ltL (xs.map (·.1)) (ys.map (·.1)))))) s) := by
  intro prog w A R s h
  obtain ⟨hp, g, d, tk, os⟩ := s; refine byAA (h) fun hl hb h => ?_
  have f3 := AutoSeq1.sub_list_list
  wp_walk using wpAny_loadPart' hl, wpAny_loadPart' hb
  exact ⟨plainId_quiet plain_eq_loop _, codeAny_builtin entry_eq_loop (by
    rw [Around.under_plainId plain_eq_loop _]
    exact lt_loop a b n n2 xs ys _ 0 rfl prog w A R _ ⟨hl, hb, Nat.zero_le _, Nat.zero_le _, by simpa using h⟩)⟩
theorem list_gtAt (a b : Addr) (n n2 : Nat) (xs ys : List (Str × Tok)) : Meets (Builtin.«list.__gt__» ⟨[.ref a, .ref b], []⟩)
      (fun A R s => s.heap.get? a = some { cls := .type "list", data := .seq (strValues xs).toArray n } ∧ s.heap.get? b = some { cls := .type "list", data := .seq (strValues ys).toArray n2 } ∧
        R (.ok (.ret (.bool (ltL (ys.map (·.1)) (xs.map (·.1)))))) s) := by
  intro prog w A R s h
  obtain ⟨hp, g, d, tk, os⟩ := s; refine byAA (h) fun hl hb h => ?_
  have f3 := AutoSeq1.sub_list_list
  wp_walk using wpAny_loadPart' hl, wpAny_loadPart' hb
  exact ⟨plainId_quiet plain_eq_loop _, codeAny_builtin entry_eq_loop (by
    rw [Around.under_plainId plain_eq_loop _]
    exact gt_loop a b n n2 xs ys _ 0 rfl prog w A R _ ⟨hl, hb, Nat.zero_le _, Nat.zero_le _, by simpa using h⟩)⟩
noncomputable def bestI (bt : Nat → Nat → Bool) : Nat → Nat
  | 0 => 0
  | n + 1 => if bt (n + 1) (bestI bt n) then n + 1 else bestI bt n
theorem bestI_le (bt : Nat → Nat → Bool) : ∀ n, bestI bt n ≤ n
  | 0 => Nat.le_refl _
  | n + 1 => by
    unfold bestI
    split
    · exact Nat.le_refl _
    · exact Nat.le_succ_of_le (bestI_le bt n)
noncomputable def Old (h h' : Heap) : Prop := ∀ b o, h.get? b = some o → h'.get? b = some o
theorem min_loopL {H : Heap} {I S l : Addr} {items : Array Value} {R : Result → Shared → Prop} (hh : A.handled = none) (bt : Nat → Nat → Bool)
    (hcmp : ∀ s' i j (hi : i < items.size) (hj : j < items.size) (Q E : Value → Shared → Prop), Old H s'.heap → Q (.bool (bt i j)) s' → wpAny (model prog w) A.in1 (richCompare .Lt items[i] items[j]) Q E s')
    (hl : H.IsList l items) (hIH : H.get? I = none) (hSH : H.get? S = none) (hIS : I ≠ S) :
    ∀ (k j : Nat) (s : Shared) (hj : j < items.size), items.size - (j + 1) = k → Old H s.heap → s.heap.IsListIter I l (j + 1) →
    (∃ c, s.heap.get? S = some { cls := .type "list", dict := none, data := .seq #[items[bestI bt j]'(Nat.lt_of_le_of_lt (bestI_le bt j) hj), items[bestI bt j]'(Nat.lt_of_le_of_lt (bestI_le bt j) hj)] c, slots := #[] }) →
    (∀ h' (hx : bestI bt (items.size - 1) < items.size), Old H h' → R (.ok (.ret items[bestI bt (items.size - 1)])) { s with heap := h' }) → codeAny (model prog w) A (.builtin "min.loop" ⟨[.ref I, .none, .ref S], []⟩) R s := by
  have hname : (toString "min" ++ toString ".loop" : String) = "min.loop" := by decide
  intro k
  induction k with
  | zero =>
    intro j s hj hk old hit ⟨c, hS⟩ hR
    have hin : j + 1 = items.size := Nat.le_antisymm hj (Nat.le_of_sub_eq_zero hk)
    refine codeAny_builtin F.entry_min_loop ?_
    rw [Around.under_plainId F.plain_min_loop _]
    show wpAny _ A.in1 (seqItems? (.ref S) >>= _) _ _ s
    refine wpAny_bind (wpAny_seqItems hS rfl ?_)
    show wpAny _ A.in1 (tryCatch (pyNext (.ref I)) _ >>= _) _ _ s
    have hl' : s.heap.IsList l items := let ⟨o, e, r⟩ := hl; ⟨o, old _ _ e, r⟩
    refine wpAny_bind (wpAny_tryCatch (wpAny_pyNext_list_end hh hit hl' (by simp [hin]) fun h' hs => ?_))
    have hS' : h'.get? S = _ := hs S _ (Ne.symm hIS) hS
    show wpAny _ A.in1 (updateSeq S (fun _ => #[]) >>= _) _ _ _
    refine wpAny_bind ?_
    refine wpAny_updateSeq hS' rfl (wpAny_bind (wpAny_letGo (wpAny_pure ?_)))
    have e : items.size - 1 = j := by rw [← hin]; rfl
    have := hR (h'.update S (Obj.mapSeq fun _ => #[])) (by rw [e]; exact Nat.lt_of_le_of_lt (bestI_le bt j) hj) fun b o eb => (Heap.get?_update_other _ _ (fun q : S = b => by rw [← q, hSH] at eb; cases eb)).trans (hs b o (fun q => by rw [q, hIH] at eb; cases eb) (old b o eb))
    simp only [e] at this
    exact this
  | succ k ih =>
    intro j s hj hk old hit ⟨c, hS⟩ hR
    have hlt : j + 1 < items.size := Nat.lt_of_sub_eq_succ hk
    refine codeAny_builtin F.entry_min_loop ?_
    rw [Around.under_plainId F.plain_min_loop _]
    show wpAny _ A.in1 (seqItems? (.ref S) >>= _) _ _ s
    refine wpAny_bind (wpAny_seqItems hS rfl ?_)
    show wpAny _ A.in1 (tryCatch (pyNext (.ref I)) _ >>= _) _ _ s
    have hl' : s.heap.IsList l items := let ⟨o, e, r⟩ := hl; ⟨o, old _ _ e, r⟩
    refine wpAny_bind (wpAny_tryCatch (wpAny_pyNext_list_item hit hl' (x := items[j + 1]) (by simp [hlt]) fun h' hit' hs => ?_))
    have hS' : h'.get? S = _ := (hs.2 S (Ne.symm hIS)).trans hS
    have old' : Old H h' := fun b o eb => (hs.2 b (fun q => by rw [q, hIH] at eb; cases eb)).trans (old b o eb)
    show wpAny _ A.in1 (tryCatch (holding [items[j + 1], items[j + 1]] (richCompare .Lt items[j + 1] (items[bestI bt j]'(Nat.lt_of_le_of_lt (bestI_le bt j) hj)) >>= _)) _ >>= _) _ _ _
    refine wpAny_bind (wpAny_tryCatch (wpAny_holding (wpAny_bind (hcmp _ (j + 1) (bestI bt j) hlt (Nat.lt_of_le_of_lt (bestI_le bt j) hj) _ _ old' ?_))))
    refine wpAny_bind (wpAny_holding (wpAny_truthy_bool ?_))
    refine wpAny_bind (wpAny_letGo (wpAny_pure ?_))
    cases hb : bt (j + 1) (bestI bt j) with
    | true =>
      simp only [if_true]
      refine wpAny_bind ?_
      refine wpAny_updateSeq hS' rfl (wpAny_bind (wpAny_letGo ?_))
      rw [hname]
      have eb : bestI bt (j + 1) = j + 1 := by unfold bestI; rw [if_pos hb]
      refine wpAny_pure ⟨plainId_quiet F.plain_min_loop _, ih (j + 1) _ hlt (by rw [Nat.sub_succ, hk]; rfl) (fun b o eb => (Heap.get?_update_other _ _ (fun q : S = b => by rw [← q, hSH] at eb; cases eb)).trans (old' b o eb)) ?_ ?_ hR⟩
      · (refine byEA (hit') fun o e r => ?_; (try clear hit'))
        exact ⟨o, (Heap.get?_update_other _ _ (Ne.symm hIS)).trans e, r⟩
      · simp only [eb]
        exact ⟨_, Heap.get?_update_self _ hS' rfl⟩
    | false =>
      simp only [Bool.false_eq_true, if_false]
      refine wpAny_bind (wpAny_letGo ?_)
      rw [hname]
      have eb : bestI bt (j + 1) = bestI bt j := by show (if _ then _ else _) = _; rw [if_neg (by rw [hb]; simp)]
      refine wpAny_pure ⟨plainId_quiet F.plain_min_loop _, ih (j + 1) _ hlt (by rw [Nat.sub_succ, hk]; rfl) old' hit' ?_ hR⟩
      simp only [eb]
      exact ⟨c, hS'⟩
theorem call_minL {l : Addr} {items : Array Value} {Q : Value → Shared → Prop} (hh : A.handled = none) (bt : Nat → Nat → Bool) (h0 : 0 < items.size)
    (hcmp : ∀ s' i j (hi : i < items.size) (hj : j < items.size) (Q E : Value → Shared → Prop), Old s.heap s'.heap → Q (.bool (bt i j)) s' → wpAny (model prog w) A.in1 (richCompare .Lt items[i] items[j]) Q E s')
    (hl : s.heap.IsList l items) (hQ : ∀ h' (hx : bestI bt (items.size - 1) < items.size), Old s.heap h' → Q items[bestI bt (items.size - 1)] { s with heap := h' }) :
    wpAny (model prog w) A (call (.builtin "min") [.ref l]) Q E s := by
  have hname : (toString "min" ++ toString ".loop" : String) = "min.loop" := by decide
  refine call_function_tree F.kind_min F.plain_min F.entry_min (F.args_min1 _) ?_
  show wpAny _ A.in1 (Builtin.Builtins.bindParams "min" ["key", "default"] 0 ⟨[], []⟩ >>= _) _ _ s
  refine wpAny_bind (wpAny_of_eq (show Builtin.Builtins.bindParams "min" ["key", "default"] 0 ⟨[], []⟩ = pure [none, none] from rfl) ?_)
  refine wpAny_bind (wpAny_pure ?_)
  refine wpAny_bind (wpAny_pyIter_list hl ?_)
  refine wpAny_bind (wpAny_newObj_type ?_)
  rw [hname]
  have hI : s.heap.get? s.heap.objs.size = none := none_size (Nat.le_refl _)
  have z1 : (s.heap.push { cls := .type "list_iterator", data := .fields #[.ref l, .int 0 0] }).objs.size = s.heap.objs.size + 1 := Heap.size_push ..
  have hSN : s.heap.get? (s.heap.push { cls := .type "list_iterator", data := .fields #[.ref l, .int 0 0] }).objs.size = none := by rw [z1]; exact none_size (Nat.le_succ _)
  have hIS : s.heap.objs.size ≠ (s.heap.push { cls := .type "list_iterator", data := .fields #[.ref l, .int 0 0] }).objs.size := by rw [z1]; exact Nat.ne_of_lt (Nat.lt_succ_self _)
  generalize hS₀ : (s.heap.push { cls := .type "list_iterator", data := .fields #[.ref l, .int 0 0] }).objs.size = S at hSN hIS
  have old₁ : Old s.heap (s.heap.push { cls := .type "list_iterator", data := .fields #[.ref l, .int 0 0] }) := fun b o e => Heap.get?_push_of_some _ e
  have hit₁ : (s.heap.push { cls := .type "list_iterator", data := .fields #[.ref l, .int 0 0] }).IsListIter s.heap.objs.size l 0 := ⟨_, Heap.get?_push_size _ rfl, rfl, rfl⟩
  generalize hH₁ : s.heap.push { cls := .type "list_iterator", data := .fields #[.ref l, .int 0 0] } = H₁ at *
  have hS : (H₁.push { cls := .type "list", data := .seq ([] : List Value).toArray }).get? S = some { cls := .type "list", dict := none, data := .seq #[] 0, slots := #[] } := by rw [← hS₀]; exact Heap.get?_push_size _ rfl
  have old₂ : Old s.heap (H₁.push { cls := .type "list", data := .seq ([] : List Value).toArray }) := fun b o e => Heap.get?_push_of_some _ (old₁ b o e)
  have hit₂ : (H₁.push { cls := .type "list", data := .seq ([] : List Value).toArray }).IsListIter s.heap.objs.size l 0 := let ⟨o, e, r⟩ := hit₁; ⟨o, Heap.get?_push_of_some _ e, r⟩
  generalize (H₁.push { cls := .type "list", data := .seq ([] : List Value).toArray }) = H₂ at *
  refine wpAny_pure ⟨plainId_quiet F.plain_min_loop _, codeAny_builtin F.entry_min_loop ?_⟩
  rw [Around.under_plainId F.plain_min_loop _]
  show wpAny _ A.in1 (seqItems? (.ref S) >>= _) _ _ { s with heap := H₂ }
  refine wpAny_bind (wpAny_seqItems (s := { s with heap := H₂ }) hS rfl ?_)
  show wpAny _ A.in1 (tryCatch (pyNext (.ref s.heap.objs.size)) _ >>= _) _ _ _
  have hl' : H₂.IsList l items := let ⟨o, e, r⟩ := hl; ⟨o, old₂ _ _ e, r⟩
  refine wpAny_bind (wpAny_tryCatch (wpAny_pyNext_list_item (s := { s with heap := H₂ }) hit₂ hl' (x := items[0]) (by simp [h0]) fun h' hit' hs => ?_))
  have hS' : h'.get? S = _ := (hs.2 S (Ne.symm hIS)).trans hS
  have old' : Old s.heap h' := fun b o eb => (hs.2 b (fun q => by rw [q, hI] at eb; cases eb)).trans (old₂ b o eb)
  show wpAny _ A.in1 (updateSeq S (fun _ => #[items[0], items[0]]) >>= _) _ _ _
  refine wpAny_bind ?_
  refine wpAny_updateSeq hS' rfl ?_
  rw [hname]
  refine wpAny_pure ⟨plainId_quiet F.plain_min_loop _, min_loopL (A := A) (H := s.heap) hh bt hcmp hl hI hSN hIS _ 0 _ h0 rfl (fun b o eb => (Heap.get?_update_other _ _ (fun q : S = b => by rw [← q, hSN] at eb; cases eb)).trans (old' b o eb)) ?_ ⟨_, Heap.get?_update_self _ hS' rfl⟩ fun h'' hx o => hQ h'' hx o⟩
  (refine byEA (hit') fun o e r => ?_; (try clear hit'))
  exact ⟨o, (Heap.get?_update_other _ _ (Ne.symm hIS)).trans e, r⟩
theorem max_loopL {H : Heap} {I S l : Addr} {items : Array Value} {R : Result → Shared → Prop} (hh : A.handled = none) (bt : Nat → Nat → Bool)
    (hcmp : ∀ s' i j (hi : i < items.size) (hj : j < items.size) (Q E : Value → Shared → Prop), Old H s'.heap → Q (.bool (bt i j)) s' → wpAny (model prog w) A.in1 (richCompare .Gt items[i] items[j]) Q E s')
    (hl : H.IsList l items) (hIH : H.get? I = none) (hSH : H.get? S = none) (hIS : I ≠ S) :
    ∀ (k j : Nat) (s : Shared) (hj : j < items.size), items.size - (j + 1) = k → Old H s.heap → s.heap.IsListIter I l (j + 1) →
    (∃ c, s.heap.get? S = some { cls := .type "list", dict := none, data := .seq #[items[bestI bt j]'(Nat.lt_of_le_of_lt (bestI_le bt j) hj), items[bestI bt j]'(Nat.lt_of_le_of_lt (bestI_le bt j) hj)] c, slots := #[] }) →
    (∀ h' (hx : bestI bt (items.size - 1) < items.size), Old H h' → R (.ok (.ret items[bestI bt (items.size - 1)])) { s with heap := h' }) → codeAny (model prog w) A (.builtin "max.loop" ⟨[.ref I, .none, .ref S], []⟩) R s := by
  have hname : (toString "max" ++ toString ".loop" : String) = "max.loop" := by decide
  intro k
  induction k with
  | zero =>
    intro j s hj hk old hit ⟨c, hS⟩ hR
    have hin : j + 1 = items.size := Nat.le_antisymm hj (Nat.le_of_sub_eq_zero hk)
    refine codeAny_builtin F.entry_max_loop ?_
    rw [Around.under_plainId F.plain_max_loop _]
    show wpAny _ A.in1 (seqItems? (.ref S) >>= _) _ _ s
    refine wpAny_bind (wpAny_seqItems hS rfl ?_)
    show wpAny _ A.in1 (tryCatch (pyNext (.ref I)) _ >>= _) _ _ s
    have hl' : s.heap.IsList l items := let ⟨o, e, r⟩ := hl; ⟨o, old _ _ e, r⟩
    refine wpAny_bind (wpAny_tryCatch (wpAny_pyNext_list_end hh hit hl' (by simp [hin]) fun h' hs => ?_))
    have hS' : h'.get? S = _ := hs S _ (Ne.symm hIS) hS
    show wpAny _ A.in1 (updateSeq S (fun _ => #[]) >>= _) _ _ _
    refine wpAny_bind ?_
    refine wpAny_updateSeq hS' rfl (wpAny_bind (wpAny_letGo (wpAny_pure ?_)))
    have e : items.size - 1 = j := by rw [← hin]; rfl
    have := hR (h'.update S (Obj.mapSeq fun _ => #[])) (by rw [e]; exact Nat.lt_of_le_of_lt (bestI_le bt j) hj) fun b o eb => (Heap.get?_update_other _ _ (fun q : S = b => by rw [← q, hSH] at eb; cases eb)).trans (hs b o (fun q => by rw [q, hIH] at eb; cases eb) (old b o eb))
    simp only [e] at this
    exact this
  | succ k ih =>
    intro j s hj hk old hit ⟨c, hS⟩ hR
    have hlt : j + 1 < items.size := Nat.lt_of_sub_eq_succ hk
    refine codeAny_builtin F.entry_max_loop ?_
    rw [Around.under_plainId F.plain_max_loop _]
    show wpAny _ A.in1 (seqItems? (.ref S) >>= _) _ _ s
    refine wpAny_bind (wpAny_seqItems hS rfl ?_)
    show wpAny _ A.in1 (tryCatch (pyNext (.ref I)) _ >>= _) _ _ s
    have hl' : s.heap.IsList l items := let ⟨o, e, r⟩ := hl; ⟨o, old _ _ e, r⟩
    refine wpAny_bind (wpAny_tryCatch (wpAny_pyNext_list_item hit hl' (x := items[j + 1]) (by simp [hlt]) fun h' hit' hs => ?_))
    have hS' : h'.get? S = _ := (hs.2 S (Ne.symm hIS)).trans hS
    have old' : Old H h' := fun b o eb => (hs.2 b (fun q => by rw [q, hIH] at eb; cases eb)).trans (old b o eb)
    show wpAny _ A.in1 (tryCatch (holding [items[j + 1], items[j + 1]] (richCompare .Gt items[j + 1] (items[bestI bt j]'(Nat.lt_of_le_of_lt (bestI_le bt j) hj)) >>= _)) _ >>= _) _ _ _
    refine wpAny_bind (wpAny_tryCatch (wpAny_holding (wpAny_bind (hcmp _ (j + 1) (bestI bt j) hlt (Nat.lt_of_le_of_lt (bestI_le bt j) hj) _ _ old' ?_))))
    refine wpAny_bind (wpAny_holding (wpAny_truthy_bool ?_))
    refine wpAny_bind (wpAny_letGo (wpAny_pure ?_))
    cases hb : bt (j + 1) (bestI bt j) with
    | true =>
      simp only [if_true]
      refine wpAny_bind ?_
      refine wpAny_updateSeq hS' rfl (wpAny_bind (wpAny_letGo ?_))
      rw [hname]
      have eb : bestI bt (j + 1) = j + 1 := by unfold bestI; rw [if_pos hb]
      refine wpAny_pure ⟨plainId_quiet F.plain_max_loop _, ih (j + 1) _ hlt (by rw [Nat.sub_succ, hk]; rfl) (fun b o eb => (Heap.get?_update_other _ _ (fun q : S = b => by rw [← q, hSH] at eb; cases eb)).trans (old' b o eb)) ?_ ?_ hR⟩
      · (refine byEA (hit') fun o e r => ?_; (try clear hit'))
        exact ⟨o, (Heap.get?_update_other _ _ (Ne.symm hIS)).trans e, r⟩
      · simp only [eb]
        exact ⟨_, Heap.get?_update_self _ hS' rfl⟩
    | false =>
      simp only [Bool.false_eq_true, if_false]
      refine wpAny_bind (wpAny_letGo ?_)
      rw [hname]
      have eb : bestI bt (j + 1) = bestI bt j := by show (if _ then _ else _) = _; rw [if_neg (by rw [hb]; simp)]
      refine wpAny_pure ⟨plainId_quiet F.plain_max_loop _, ih (j + 1) _ hlt (by rw [Nat.sub_succ, hk]; rfl) old' hit' ?_ hR⟩
      simp only [eb]
      exact ⟨c, hS'⟩
theorem call_maxL {l : Addr} {items : Array Value} {Q : Value → Shared → Prop} (hh : A.handled = none) (bt : Nat → Nat → Bool) (h0 : 0 < items.size)
    (hcmp : ∀ s' i j (hi : i < items.size) (hj : j < items.size) (Q E : Value → Shared → Prop), Old s.heap s'.heap → Q (.bool (bt i j)) s' → wpAny (model prog w) A.in1 (richCompare .Gt items[i] items[j]) Q E s')
    (hl : s.heap.IsList l items) (hQ : ∀ h' (hx : bestI bt (items.size - 1) < items.size), Old s.heap h' → Q items[bestI bt (items.size - 1)] { s with heap := h' }) :
    wpAny (model prog w) A (call (.builtin "max") [.ref l]) Q E s := by
  have hname : (toString "max" ++ toString ".loop" : String) = "max.loop" := by decide
  refine call_function_tree F.kind_max F.plain_max F.entry_max (F.args_max1 _) ?_
  show wpAny _ A.in1 (Builtin.Builtins.bindParams "max" ["key", "default"] 0 ⟨[], []⟩ >>= _) _ _ s
  refine wpAny_bind (wpAny_of_eq (show Builtin.Builtins.bindParams "max" ["key", "default"] 0 ⟨[], []⟩ = pure [none, none] from rfl) ?_)
  refine wpAny_bind (wpAny_pure ?_)
  refine wpAny_bind (wpAny_pyIter_list hl ?_)
  refine wpAny_bind (wpAny_newObj_type ?_)
  rw [hname]
  have hI : s.heap.get? s.heap.objs.size = none := none_size (Nat.le_refl _)
  have z1 : (s.heap.push { cls := .type "list_iterator", data := .fields #[.ref l, .int 0 0] }).objs.size = s.heap.objs.size + 1 := Heap.size_push ..
  have hSN : s.heap.get? (s.heap.push { cls := .type "list_iterator", data := .fields #[.ref l, .int 0 0] }).objs.size = none := by rw [z1]; exact none_size (Nat.le_succ _)
  have hIS : s.heap.objs.size ≠ (s.heap.push { cls := .type "list_iterator", data := .fields #[.ref l, .int 0 0] }).objs.size := by rw [z1]; exact Nat.ne_of_lt (Nat.lt_succ_self _)
  generalize hS₀ : (s.heap.push { cls := .type "list_iterator", data := .fields #[.ref l, .int 0 0] }).objs.size = S at hSN hIS
  have old₁ : Old s.heap (s.heap.push { cls := .type "list_iterator", data := .fields #[.ref l, .int 0 0] }) := fun b o e => Heap.get?_push_of_some _ e
  have hit₁ : (s.heap.push { cls := .type "list_iterator", data := .fields #[.ref l, .int 0 0] }).IsListIter s.heap.objs.size l 0 := ⟨_, Heap.get?_push_size _ rfl, rfl, rfl⟩
  generalize hH₁ : s.heap.push { cls := .type "list_iterator", data := .fields #[.ref l, .int 0 0] } = H₁ at *
  have hS : (H₁.push { cls := .type "list", data := .seq ([] : List Value).toArray }).get? S = some { cls := .type "list", dict := none, data := .seq #[] 0, slots := #[] } := by rw [← hS₀]; exact Heap.get?_push_size _ rfl
  have old₂ : Old s.heap (H₁.push { cls := .type "list", data := .seq ([] : List Value).toArray }) := fun b o e => Heap.get?_push_of_some _ (old₁ b o e)
  have hit₂ : (H₁.push { cls := .type "list", data := .seq ([] : List Value).toArray }).IsListIter s.heap.objs.size l 0 := let ⟨o, e, r⟩ := hit₁; ⟨o, Heap.get?_push_of_some _ e, r⟩
  generalize (H₁.push { cls := .type "list", data := .seq ([] : List Value).toArray }) = H₂ at *
  refine wpAny_pure ⟨plainId_quiet F.plain_max_loop _, codeAny_builtin F.entry_max_loop ?_⟩
  rw [Around.under_plainId F.plain_max_loop _]
  show wpAny _ A.in1 (seqItems? (.ref S) >>= _) _ _ { s with heap := H₂ }
  refine wpAny_bind (wpAny_seqItems (s := { s with heap := H₂ }) hS rfl ?_)
  show wpAny _ A.in1 (tryCatch (pyNext (.ref s.heap.objs.size)) _ >>= _) _ _ _
  have hl' : H₂.IsList l items := let ⟨o, e, r⟩ := hl; ⟨o, old₂ _ _ e, r⟩
  refine wpAny_bind (wpAny_tryCatch (wpAny_pyNext_list_item (s := { s with heap := H₂ }) hit₂ hl' (x := items[0]) (by simp [h0]) fun h' hit' hs => ?_))
  have hS' : h'.get? S = _ := (hs.2 S (Ne.symm hIS)).trans hS
  have old' : Old s.heap h' := fun b o eb => (hs.2 b (fun q => by rw [q, hI] at eb; cases eb)).trans (old₂ b o eb)
  show wpAny _ A.in1 (updateSeq S (fun _ => #[items[0], items[0]]) >>= _) _ _ _
  refine wpAny_bind ?_
  refine wpAny_updateSeq hS' rfl ?_
  rw [hname]
  refine wpAny_pure ⟨plainId_quiet F.plain_max_loop _, max_loopL (A := A) (H := s.heap) hh bt hcmp hl hI hSN hIS _ 0 _ h0 rfl (fun b o eb => (Heap.get?_update_other _ _ (fun q : S = b => by rw [← q, hSN] at eb; cases eb)).trans (old' b o eb)) ?_ ⟨_, Heap.get?_update_self _ hS' rfl⟩ fun h'' hx o => hQ h'' hx o⟩
  (refine byEA (hit') fun o e r => ?_; (try clear hit'))
  exact ⟨o, (Heap.get?_update_other _ _ (Ne.symm hIS)).trans e, r⟩
end
noncomputable def lsl (l : List (List Str)) : List D := l.map fun x => .list (sl x)
noncomputable def minL (l : List (List Str)) : List Str := l.getD (bestI (fun i j => ltL (l.getD i []) (l.getD j [])) (l.length - 1)) []
noncomputable def maxL (l : List (List Str)) : List Str := l.getD (bestI (fun i j => ltL (l.getD j []) (l.getD i [])) (l.length - 1)) []
section
variable {B : Base} {k : Nat} {K : Kinds} {Γ Γ' : G} {V V' V₀ W : Addr → Prop} {h h' : Heap} {env : Env} {A : Around} {s : Shared}
theorem PlainList.strs {a : Addr} {it : Array Value} {l : List Str} (p : h.PlainList a it) (q : Lays B V h (sl l) it.toList) : ∃ (z : List (Str × Tok)) (n : Nat), z.map (·.1) = l ∧ h.get? a = some { cls := .type "list", data := .seq (strValues z).toArray n } := by
  (refine byE (p) fun n e => ?_; (try clear p))
  refine byEA (q.toStrs) fun z e1 e2 => ?_
  exact ⟨z, n, e1, by rw [e, ← e2]⟩
theorem lsl_get {l : List (List Str)} {vs : List Value} (x : Lays B V h (lsl l) vs) {i : Nat} (hi : i < l.length) : ∃ v, vs[i]? = some v ∧ Lay B V h (.list (sl (l.getD i []))) v :=
  x.get (by simp [lsl, hi])
theorem lsl_cmp {l : List (List Str)} {items : Array Value} (rm : A.units + 10 < 9900) (x : Lays B V h (lsl l) items.toList) {s' : Shared} (old : Old h s'.heap) {i j : Nat} (hi : i < items.size) (hj : j < items.size) :
    ∃ (a b : Addr) (xs ys : List (Str × Tok)) (n m : Nat), items[i] = .ref a ∧ items[j] = .ref b ∧ xs.map (·.1) = l.getD i [] ∧ ys.map (·.1) = l.getD j [] ∧
      s'.heap.get? a = some { cls := .type "list", data := .seq (strValues xs).toArray n } ∧ s'.heap.get? b = some { cls := .type "list", data := .seq (strValues ys).toArray m } := by
  have hz : items.size = l.length := by have := x.length; simpa [lsl] using this
  refine byEA (lsl_get x (i := i) (by omega)) fun v ev lv => ?_
  refine byEA (lsl_get x (i := j) (by omega)) fun w ew lw => ?_
  simp only [Lay] at lv lw
  (refine byEA (lv) fun a hq1 hr2 => ?_; (try clear lv); subst hq1; refine byA (hr2) fun _ hr3 => ?_; (try clear hr2); refine byEA (hr3) fun it p q => ?_; (try clear hr3))
  (refine byEA (lw) fun b hq4 hr5 => ?_; (try clear lw); subst hq4; refine byA (hr5) fun _ hr6 => ?_; (try clear hr5); refine byEA (hr6) fun it' p' q' => ?_; (try clear hr6))
  refine byEEA (PlainList.strs p q) fun xs n e1 e2 => ?_
  refine byEEA (PlainList.strs p' q') fun ys m e3 e4 => ?_
  refine ⟨a, b, xs, ys, n, m, ?_, ?_, e1, e3, old _ _ e2, old _ _ e4⟩
  · have : items.toList[i]? = some items[i] := by simp [hi]
    rw [this] at ev; exact Option.some.inj ev
  · have : items.toList[j]? = some items[j] := by simp [hj]
    rw [this] at ew; exact Option.some.inj ew
theorem BltR.minL (O : B.Ok) {l : List (List Str)} (h0 : l ≠ []) : BltR B (k + 1) (.builtin "min") [.list (lsl l)] (.list (sl (Jv.minL l))) := fun A V s vs Q E rm i dm ls h => by
  (refine byEA (ls.one) fun v hq7 x => ?_; subst hq7)
  (refine byEEA (x.asList) fun a it hq8 hr9 => ?_; subst hq8; refine byA (hr9) fun p q => ?_; (try clear hr9))
  have hz : it.size = l.length := by have := q.length; simpa [lsl] using this
  have hu := rm.units
  have h0' : 0 < l.length := List.length_pos_iff.mpr h0
  refine call_minL (prog := B.prog) (w := B.w) (rm.handled (Nat.succ_pos _)) (fun i j => ltL (l.getD i []) (l.getD j [])) (by omega) (fun s' i j hi hj Q E old hq => ?_) p.isList fun h' hx old => ?_
  · (refine byEE (lsl_cmp (A := A) (by omega) q old hi hj) fun a b hr10 => ?_; refine byEE (hr10) fun xs ys hr11 => ?_; (try clear hr10); refine byEEAAA (hr11) fun n m e1 e2 e3 hr12 => ?_; (try clear hr11); refine byAA (hr12) fun e4 e5 e6 => ?_; (try clear hr12))
    rw [e1, e2]
    exact richCompare_meets_room (op := .Lt) ⟨_, e5, rfl⟩ ⟨_, e6, rfl⟩ PySem.F.slot_list_lt PySem.F.entry_list_lt (PySem.F.args_list_lt_2 _ _) (list_ltAt a b n m xs ys) ⟨e5, e6, show Value.bool _ ≠ Value.notImplemented ∧ Q (.bool _) s' from ⟨(fun x => nomatch x), by rw [e3, e4]; exact hq⟩⟩ (show A.units + 1 < 9900 by omega)
  · have hx' : bestI (fun i j => ltL (l.getD i []) (l.getD j [])) (it.size - 1) < l.length := by omega
    refine byEA (lsl_get q hx') fun v ev lv => ?_
    have : it.toList[bestI (fun i j => ltL (l.getD i []) (l.getD j [])) (it.size - 1)]? = some (it[bestI (fun i j => ltL (l.getD i []) (l.getD j [])) (it.size - 1)]'hx) := by simp
    rw [this] at ev
    have e := Option.some.inj ev
    rw [e]
    refine h _ _ (i.keep O (tk := s.toks) old) (.of old) ?_
    have ml : Jv.minL l = l.getD (bestI (fun i j => ltL (l.getD i []) (l.getD j [])) (it.size - 1)) [] := by unfold Jv.minL; rw [hz]
    rw [ml]
    exact lv.kp (.of old)
theorem BltR.maxL (O : B.Ok) {l : List (List Str)} (h0 : l ≠ []) : BltR B (k + 1) (.builtin "max") [.list (lsl l)] (.list (sl (Jv.maxL l))) := fun A V s vs Q E rm i dm ls h => by
  (refine byEA (ls.one) fun v hq13 x => ?_; subst hq13)
  (refine byEEA (x.asList) fun a it hq14 hr15 => ?_; subst hq14; refine byA (hr15) fun p q => ?_; (try clear hr15))
  have hz : it.size = l.length := by have := q.length; simpa [lsl] using this
  have hu := rm.units
  have h0' : 0 < l.length := List.length_pos_iff.mpr h0
  refine call_maxL (prog := B.prog) (w := B.w) (rm.handled (Nat.succ_pos _)) (fun i j => ltL (l.getD j []) (l.getD i [])) (by omega) (fun s' i j hi hj Q E old hq => ?_) p.isList fun h' hx old => ?_
  · (refine byEE (lsl_cmp (A := A) (by omega) q old hi hj) fun a b hr16 => ?_; refine byEE (hr16) fun xs ys hr17 => ?_; (try clear hr16); refine byEEAAA (hr17) fun n m e1 e2 e3 hr18 => ?_; (try clear hr17); refine byAA (hr18) fun e4 e5 e6 => ?_; (try clear hr18))
    rw [e1, e2]
    exact richCompare_meets_room (op := .Gt) ⟨_, e5, rfl⟩ ⟨_, e6, rfl⟩ PySem.F.slot_list_gt PySem.F.entry_list_gt (PySem.F.args_list_gt_2 _ _) (list_gtAt a b n m xs ys) ⟨e5, e6, show Value.bool _ ≠ Value.notImplemented ∧ Q (.bool _) s' from ⟨(fun x => nomatch x), by rw [e3, e4]; exact hq⟩⟩ (show A.units + 1 < 9900 by omega)
  · have hx' : bestI (fun i j => ltL (l.getD j []) (l.getD i [])) (it.size - 1) < l.length := by omega
    refine byEA (lsl_get q hx') fun v ev lv => ?_
    have : it.toList[bestI (fun i j => ltL (l.getD j []) (l.getD i [])) (it.size - 1)]? = some (it[bestI (fun i j => ltL (l.getD j []) (l.getD i [])) (it.size - 1)]'hx) := by simp
    rw [this] at ev
    have e := Option.some.inj ev
    rw [e]
    refine h _ _ (i.keep O (tk := s.toks) old) (.of old) ?_
    have ml : Jv.maxL l = l.getD (bestI (fun i j => ltL (l.getD j []) (l.getD i [])) (it.size - 1)) [] := by unfold Jv.maxL; rw [hz]
    rw [ml]
    exact lv.kp (.of old)
end
end Jv
namespace Jv
open PySem PySem.W PySem.Calls PyProof.Rows
open AutoSeq1 (wpAny_loadPart')
theorem slot_map_next : PySem.Slot "map" "__next__" "map.__next__" :=
  .of (owner := "map") (n := "__next__") (by rw [typeLookup_type, builtinLookup_eq_fast]; kernel_rfl) (by decide +kernel) (by decide +kernel) (by decide +kernel)
    (by first | exact .inl (by decide +kernel) | exact .inr (by decide +kernel)) (by rw [isSubtype_type]; kernel_rfl)
theorem slot_map_iter : PySem.Slot "map" "__iter__" "map.__iter__" :=
  .of (owner := "map") (n := "__iter__") (by rw [typeLookup_type, builtinLookup_eq_fast]; kernel_rfl) (by decide +kernel) (by decide +kernel) (by decide +kernel)
    (by first | exact .inl (by decide +kernel) | exact .inr (by decide +kernel)) (by rw [isSubtype_type]; kernel_rfl)
theorem entry_map_iter : entryFor table "map.__iter__" = some Builtin.«dict_keyiterator.__iter__» :=
  entryFor_alias (id' := "dict_keyiterator.__iter__") (by kernel_rfl) (by first | rfl | decide +kernel | (unfold String.splitOn; simp +decide [String.splitOnAux])) (by decide +kernel) (by kernel_rfl)
theorem args_map_iter_1 (a : Value) : argsOk "map.__iter__" ⟨[a], []⟩ := by unfold argsOk; kernel_rfl
theorem mro_map : mroOf (.type "map") = pure [.type "map", .type "object"] := by rw [mroOf_type]; kernel_rfl
theorem lookup_map_new : typeLookup (.type "map") "__new__" = pure (some (.builtin "map.__new__")) := by rw [typeLookup_type, builtinLookup_eq_fast]; kernel_rfl
theorem map_no_len : typeLookup (.type "map") "__len__" = pure none := by rw [typeLookup_type, builtinLookup_eq_fast]; kernel_rfl
theorem map_no_hint : typeLookup (.type "map") "__length_hint__" = pure none := by rw [typeLookup_type, builtinLookup_eq_fast]; kernel_rfl
theorem slot_map_init : PySem.Slot "map" "__init__" "object.__init__" :=
  .of (owner := "object") (n := "__init__") (by rw [typeLookup_type, builtinLookup_eq_fast]; kernel_rfl) (by decide +kernel) (by decide +kernel) (by decide +kernel)
    (by first | exact .inl (by decide +kernel) | exact .inr (by decide +kernel)) (by rw [isSubtype_type]; kernel_rfl)
theorem called_map : TypeCalled "map" "map.__new__" "object.__init__" :=
  ⟨by decide +kernel, by decide +kernel, ⟨_, _, mro_map⟩, madeBy_type mro_map lookup_map_new (by decide +kernel), by decide +kernel, by rw [isSubtype_type]; kernel_rfl, slot_map_init⟩
theorem typeCall_map_2 (a b : Value) : checkTypeCall "map" ⟨[a, b], []⟩ = pure () := by kernel_rfl
theorem newCall_map_2 (a b : Value) : checkBuiltinCall "map.__new__" ⟨[.type "map", a, b], []⟩ = pure () := by kernel_rfl
theorem args_object_init_3 (o a b : Value) : argsOk "object.__init__" ⟨[o, a, b], []⟩ := PySem.F.initArgs_range_2 o a b
theorem entry_map_new : entryFor table "map.__new__" = some Builtin.«map.__new__» := entryFor_of_tree (by kernel_rfl)
theorem entry_map_next : entryFor table "map.__next__" = some Builtin.«map.__next__» := entryFor_of_tree (by kernel_rfl)
theorem args_map_next_1 (a : Value) : argsOk "map.__next__" ⟨[a], []⟩ := by unfold argsOk; kernel_rfl
theorem sub_map : isSubtype (.type "map") (.type "map") = pure true := by rw [isSubtype_type]; kernel_rfl
noncomputable def itObj (l : Addr) : Obj := { cls := .type "list_iterator", data := .fields #[.ref l, .int 0 0] }
noncomputable def tupObj (j : Addr) : Obj := { cls := .type "tuple", data := .seq #[.ref j] }
noncomputable def mapObj (t fa : Addr) : Obj := { cls := .type "map", data := .fields #[.ref t, .ref fa] }
theorem meets_map_new (fa l : Addr) (items : Array Value) (n : Nat) :
    Meets (Builtin.«map.__new__» ⟨[.type "map", .ref fa, .ref l], []⟩) (fun _ R s => s.heap.get? l = some { cls := .type "list", dict := none, data := .seq items n, slots := #[] } ∧
      R (.ok (.ret (.ref ((s.heap.push (itObj l)).push (tupObj s.heap.objs.size)).objs.size)))
        { s with heap := ((s.heap.push (itObj l)).push (tupObj s.heap.objs.size)).push (mapObj (s.heap.push (itObj l)).objs.size fa) }) :=
  .of_wp fun prog w A R s h => by
    obtain ⟨hp, g, d, tk, os⟩ := s; refine byA (h) fun hl h => ?_
    have hsub := sub_map
    have hL : Heap.IsList (Shared.heap ⟨hp, g, d, tk, os⟩) l items := ⟨_, hl, rfl, n, rfl⟩
    wp_walk using wpAny_loadPart' hl, wpAny_pyIter_list hL
    exact ⟨_, rfl, h⟩
section
variable {prog : Program} {w : World} {A : Around} {E : Value → Shared → Prop} {s : Shared}
theorem call_map {fa l : Addr} {items : Array Value} {Q : Value → Shared → Prop} (hl : s.heap.PlainList l items)
    (h : ∀ h', h'.get? s.heap.objs.size = some (itObj l) → h'.get? (s.heap.objs.size + 1) = some (tupObj s.heap.objs.size) → h'.get? (s.heap.objs.size + 2) = some (mapObj (s.heap.objs.size + 1) fa) →
      (∀ b o, s.heap.get? b = some o → h'.get? b = some o) → Q (.ref (s.heap.objs.size + 2)) { s with heap := h' }) :
    wpAny (model prog w) A (call (.type "map") [.ref fa, .ref l]) Q E s := by
  refine byE (hl) fun n hl => ?_
  refine callType_new called_map (by decide) (typeCall_map_2 _ _) (newCall_map_2 _ _) (fun obj => args_object_init_3 obj _ _) entry_map_new (meets_map_new fa l items n) ⟨hl, ?_⟩
  have z1 : (s.heap.push (itObj l)).objs.size = s.heap.objs.size + 1 := Heap.size_push ..
  have z2 : ((s.heap.push (itObj l)).push (tupObj s.heap.objs.size)).objs.size = s.heap.objs.size + 2 := by rw [Heap.size_push, z1]
  have g3 := Heap.get?_push_size ((s.heap.push (itObj l)).push (tupObj s.heap.objs.size)) (o := mapObj (s.heap.push (itObj l)).objs.size fa) rfl
  have g2 := Heap.get?_push_size (s.heap.push (itObj l)) (o := tupObj s.heap.objs.size) rfl
  have g1 := Heap.get?_push_size s.heap (o := itObj l) rfl
  show _ ∧ _
  rw [z2] at g3 ⊢
  rw [z1] at g3 g2 ⊢
  exact ⟨⟨_, g3, rfl⟩, h _ (Heap.get?_push_of_some _ (Heap.get?_push_of_some _ g1)) (Heap.get?_push_of_some _ g2) g3 fun b o e => Heap.get?_push_of_some _ (Heap.get?_push_of_some _ (Heap.get?_push_of_some _ e))⟩
theorem map_next_item {I T J l fa : Addr} {i : Nat} {items : Array Value} {x : Value} {Q : Option Value → Shared → Prop} (hI : s.heap.get? I = some (mapObj T fa)) (hT : s.heap.get? T = some (tupObj J))
    (hJ : s.heap.IsListIter J l i) (hl : s.heap.IsList l items) (hx : items[i]? = some x)
    (hc : ∀ h' E', h'.IsListIter J l (i + 1) → Heap.SameBut J s.heap h' → wpAny (model prog w) A.in1 (call (.ref fa) [x]) (fun r s' => Q (some r) s') E' { s with heap := h' }) : wpAny (model prog w) A (pyNext (.ref I)) Q E s := by
  have hTy : s.TypeIs (.ref I) "map" := ⟨_, hI, rfl⟩
  have hJI : I ≠ J := by
    rintro rfl
    (refine byEAA (hJ) fun o e c _ => ?_; (try clear hJ))
    rw [hI] at e; cases e; exact absurd c (by simp [mapObj])
  unfold pyNext
  refine wpAny_bind (wpAny_attempt (wpAny_callSpecial?_slot (name := Str.ofString "__next__") hTy slot_map_next
    (wpAny_call_entry slot_map_next hTy entry_map_next ?_ (args_map_next_1 _))))
  unfold Builtin.«map.__next__»
  refine wpAny_bind (wpAny_pure ?_)
  refine wpAny_bind (wpAny_field hI rfl (x := .ref T) rfl ?_)
  refine wpAny_bind (wpAny_seqItems hT rfl ?_)
  simp only [List.forIn_toArray]
  refine wpAny_bind ?_
  rw [List.forIn_cons]
  refine wpAny_bind (wpAny_bind (wpAny_holding (wpAny_nextOf_list_item hJ hl hx fun h' hit hs => ?_)))
  refine wpAny_pure ?_
  dsimp only
  rw [List.forIn_nil]
  refine wpAny_pure ?_
  have hI' : h'.get? I = some (mapObj T fa) := (hs.2 I hJI).trans hI
  refine wpAny_bind (wpAny_field hI' rfl (x := .ref fa) rfl ?_)
  refine wpAny_bind (wpAny_holding (wpAny_mono (hc h' _ hit hs) (fun r s' hr => ?_) fun _ _ e => e))
  exact wpAny_bind (wpAny_letGo (wpAny_pure ⟨r, rfl, wpAny_pure hr⟩))
theorem map_next_end {I T J l fa : Addr} {i : Nat} {items : Array Value} {Q : Option Value → Shared → Prop} (hh : A.handled = none) (hI : s.heap.get? I = some (mapObj T fa)) (hT : s.heap.get? T = some (tupObj J))
    (hJ : s.heap.IsListIter J l i) (hl : s.heap.IsList l items) (hx : items[i]? = none)
    (hQ : ∀ h', Heap.ExtBut J s.heap h' → Q none { s with heap := h' }) : wpAny (model prog w) A (pyNext (.ref I)) Q E s := by
  have hTy : s.TypeIs (.ref I) "map" := ⟨_, hI, rfl⟩
  unfold pyNext
  refine wpAny_bind (wpAny_attempt (wpAny_callSpecial?_slot (name := Str.ofString "__next__") hTy slot_map_next
    (wpAny_call_entry slot_map_next hTy entry_map_next ?_ (args_map_next_1 _))))
  unfold Builtin.«map.__next__»
  refine wpAny_bind (wpAny_pure ?_)
  refine wpAny_bind (wpAny_field hI rfl (x := .ref T) rfl ?_)
  refine wpAny_bind (wpAny_seqItems hT rfl ?_)
  simp only [List.forIn_toArray]
  refine wpAny_bind ?_
  rw [List.forIn_cons]
  refine wpAny_bind (wpAny_bind (wpAny_holding (wpAny_nextOf_list_end hh hJ hl hx fun h' x he' hx' => ?_)))
  (refine byEA (hx') fun o ho hc => ?_; (try clear hx'))
  refine wpAny_bind (wpAny_isInstance (T := "StopIteration") (b := true) ⟨o, ho, hc⟩ isSubtype_stop ?_)
  exact wpAny_pure (hQ _ he')
theorem map_iter {I T fa : Addr} {Q : Value → Shared → Prop} (hI : s.heap.get? I = some (mapObj T fa)) (h : Q (.ref I) s) : wpAny (model prog w) A (pyIter (.ref I)) Q E s := by
  have hT : s.TypeIs (.ref I) "map" := ⟨_, hI, rfl⟩
  refine wpAny_pyIter_slot hT slot_map_iter (wpAny_call_entry slot_map_iter hT entry_map_iter ?_ (args_map_iter_1 _))
  show wpAny _ _ (ret (.ref I)) _ _ s
  exact wpAny_pure ⟨_, rfl, "map", _, hT, slot_map_next.lookup, h⟩
end
section
variable {B : Base} {k : Nat} {A : Around}
theorem keptE {h h' : Heap} {b : Addr} {o : Obj} (k : Kp h h') (e : h.get? b = some o) (h1 : o.cls ≠ .type "frame") (h2 : o.cls ≠ .none) : h'.get? b = some o := (k b o e).exact h1 h2
theorem isList_kp {h h' : Heap} {l : Addr} {items : Array Value} (x : h.PlainList l items) (k : Kp h h') : h'.PlainList l items := let ⟨n, e⟩ := x; ⟨n, keptE k e (by simp) (by simp)⟩
theorem strs_len {vs : List Value} {ys : List Str} (h : StrsAre vs ys) : vs.length = ys.length := by
  induction h with
  | nil => rfl
  | cons y t r ih => exact congrArg (· + 1) ih
theorem strs_get {vs : List Value} {ys : List Str} (h : StrsAre vs ys) : ∀ i (h1 : i < vs.length) (h2 : i < ys.length), ∃ t, vs[i] = .str ys[i] t := by
  induction h with
  | nil => intro i h1; exact absurd h1 (Nat.not_lt_zero _)
  | cons y t r ih =>
    intro i h1 h2
    cases i with
    | zero => exact ⟨t, rfl⟩
    | succ i => exact ih i (Nat.lt_of_succ_lt_succ h1) (Nat.lt_of_succ_lt_succ h2)
theorem strs_app {x : Str} {t' : Tok} {vs : List Value} {ys : List Str} (h : StrsAre vs ys) : StrsAre (vs ++ [.str x t']) (ys ++ [x]) := by
  induction h with
  | nil => exact .cons _ _ .nil
  | cons y t r ih => exact .cons _ _ ih
theorem map_loop (O : B.Ok) {H : Heap} {f : Str} {I T J S l fa : Addr} {items : Array Value} {xs : List Str} {res : Value} {R : Result → Shared → Prop} (rm : Room (k + 1) A.in1.in1) (hf : B.mg f = some (.ref fa)) (hc : ∀ x, x ∈ xs → Calls B (k + 1) f [.str x] (.str x))
    (hp : H.PlainList l items) (hs : StrsAre items.toList xs) (hJH : H.get? J = none) (hSH : H.get? S = none) (hJn : B.n₀ ≤ J) (hSn : B.n₀ ≤ S) (hz : xs.length ≤ sizeLine) :
    ∀ (n i : Nat) (s : Shared) (acc : Array Value) (c : Nat), xs.length - i = n → i ≤ xs.length → Inv B A.in1 s → Kp H s.heap → s.heap.get? I = some (mapObj T fa) → s.heap.get? T = some (tupObj J) → s.heap.IsListIter J l i →
      s.heap.get? S = some { cls := .type "list", data := .seq acc c } → StrsAre acc.toList (xs.take i) →
      (∀ s' acc' c', Inv B A.in1 s' → Kp H s'.heap → s'.heap.get? S = some { cls := .type "list", data := .seq acc' c' } → StrsAre acc'.toList xs → R (.ok (.ret res)) s') →
      codeAny B.M A (.builtin "list.extend.loop" ⟨[.ref S, .ref I, res], []⟩) R s := by
  have len : items.size = xs.length := strs_len hs
  have at_ : ∀ i (hi : i < items.size), ∃ t, items[i] = .str (xs[i]'(len ▸ hi)) t := fun i hi => strs_get hs i hi (len ▸ hi)
  intro n
  induction n with
  | zero =>
    intro i s acc c hk hi inv kp hI hT hJ hS hacc hR
    have hin : i = xs.length := Nat.le_antisymm hi (Nat.le_of_sub_eq_zero hk)
    refine codeAny_builtin F.entry_extend_loop ?_
    rw [Around.under_plainId F.plain_extend_loop _]
    show wpAny _ A.in1 (pyNext (.ref I) >>= _) _ _ s
    refine wpAny_bind (map_next_end (prog := B.prog) (w := B.w) (rm.handled (Nat.succ_pos _)) hI hT hJ (isList_kp hp kp).isList (Array.getElem?_eq_none (by rw [len, hin]; exact Nat.le_refl _)) fun h' he => ?_)
    (refine byEAA (hJ) fun oJ j1 j2 j3 => ?_; (try clear hJ))
    have i' := inv_extBut O inv he hJn j1 (by rw [j2]; simp)
    have nJ : ∀ b o, H.get? b = some o → b ≠ J := fun b o e q => by rw [q, hJH] at e; cases e
    have kp' : Kp H h' := fun b o e => by
      rcases kp b o e with q | ⟨a1, sl, q⟩ | ⟨a1, o', q⟩
      · exact .inl (he b _ (nJ b o e) q)
      · exact .inr (.inl ⟨a1, sl, he b _ (nJ b o e) q⟩)
      · exact .inr (.inr ⟨a1, o', he b _ (nJ b o e) q⟩)
    have hSJ : S ≠ J := by rintro rfl; rw [hS] at j1; cases j1; simp at j2
    exact wpAny_pure (hR { s with heap := h' } acc c i' kp' (he S _ hSJ hS) (by rw [hin, List.take_length] at hacc; exact hacc))
  | succ n ih =>
    intro i s acc c hk hi inv kp hI hT hJ hS hacc hR
    have hlt : i < xs.length := Nat.lt_of_sub_eq_succ hk
    have hlt' : i < items.size := len ▸ hlt
    refine byE (at_ i hlt') fun t et => ?_
    refine codeAny_builtin F.entry_extend_loop ?_
    rw [Around.under_plainId F.plain_extend_loop _]
    show wpAny _ A.in1 (pyNext (.ref I) >>= _) _ _ s
    refine byEAA (id hJ) fun oJ j1 j2 j3 => ?_
    have hSJ : S ≠ J := by rintro rfl; rw [hS] at j1; cases j1; simp at j2
    have hIJ : I ≠ J := by rintro rfl; rw [hI] at j1; cases j1; simp [mapObj] at j2
    have hTJ : T ≠ J := by rintro rfl; rw [hT] at j1; cases j1; simp [tupObj] at j2
    have hIS : I ≠ S := by rintro rfl; rw [hI] at hS; simp [mapObj] at hS
    have hTS : T ≠ S := by rintro rfl; rw [hT] at hS; simp [tupObj] at hS
    refine wpAny_bind (map_next_item (prog := B.prog) (w := B.w) hI hT hJ (isList_kp hp kp).isList (x := items[i]) (by simp [hlt']) fun h' E' hit hsm => ?_)
    have i' : Inv B A.in1 { s with heap := h' } := inv.sameBut O (tk := s.toks) hsm hJn fun o e => by rw [j1] at e; cases e; rw [j2]; simp
    have key := hc _ (List.getElem_mem hlt) A.in1.in1 (fun _ => False) { s with heap := h' } [items[i]] (fun r s' => wpAny B.M A.in1 (match some r with
        | some v => (do updateSeq S (·.push v); again (.builtin "list.extend.loop" ⟨[.ref S, .ref I, res], []⟩) : Sem Fin)
        | none => ret res) (fun fin s' => match fin with | .done f => R (.ok f) s' | .again c' => c'.quiet = true ∧ codeAny B.M A c' R s') (fun e s' => R (.error e) s') s') E' rm i'.in1 (fun _ q => q.elim) (by simp only [Lays, Lay]; exact ⟨_, [], rfl, ⟨t, et⟩, rfl⟩)
    refine byEA (key (by
      intro v s₂ i₂ k₂ l₂
      simp only [Lay] at l₂
      obtain ⟨t', rfl⟩ := l₂
      have nJ : ∀ b o, H.get? b = some o → b ≠ J := fun b o e q => by rw [q, hJH] at e; cases e
      have kp' : Kp H h' := fun b o e => (kp b o e).same (hsm.2 b (nJ b o e))
      have kp₂ : Kp H s₂.heap := kp'.trans k₂
      have hS₂ : s₂.heap.get? S = some { cls := .type "list", data := .seq acc c } := keptE k₂ ((hsm.2 S hSJ).trans hS) (by simp) (by simp)
      have hI₂ : s₂.heap.get? I = some (mapObj T fa) := keptE k₂ ((hsm.2 I hIJ).trans hI) (by simp [mapObj]) (by simp [mapObj])
      have hT₂ : s₂.heap.get? T = some (tupObj J) := keptE k₂ ((hsm.2 T hTJ).trans hT) (by simp [tupObj]) (by simp [tupObj])
      have hJ₂ : s₂.heap.IsListIter J l (i + 1) := by
        obtain ⟨o, e, c1, c2⟩ := hit
        exact ⟨o, keptE k₂ e (by rw [c1]; simp) (by rw [c1]; simp), c1, c2⟩
      have asz : acc.size = i := (strs_len hacc).trans (by rw [List.length_take]; exact Nat.min_eq_left hi)
      show wpAny _ A.in1 (updateSeq S (·.push _) >>= _) _ _ _
      refine wpAny_bind ?_
      refine wpAny_updateSeq hS₂ rfl (wpAny_pure ⟨plainId_quiet F.plain_extend_loop _, ih (i + 1) _ (acc.push (.str xs[i] t')) _ (by rw [Nat.sub_succ, hk]; rfl) hlt
        (i₂.of_in1.sameBut O (tk := s₂.toks) (Heap.SameBut.update ..) hSn fun o e => by rw [hS₂] at e; cases e; simp) (fun b o e => (kp₂ b o e).same (Heap.get?_update_other _ _ fun q : S = b => by rw [← q, hSH] at e; cases e))
        ((Heap.get?_update_other _ _ (Ne.symm hIS)).trans hI₂) ((Heap.get?_update_other _ _ (Ne.symm hTS)).trans hT₂) (let ⟨o, e, r⟩ := hJ₂; ⟨o, (Heap.get?_update_other _ _ hSJ).trans e, r⟩) (Heap.get?_update_self _ hS₂ rfl) ?_ hR⟩) (by rw [asz]; exact Nat.le_of_lt (Nat.lt_of_lt_of_le hlt hz)) (by show (acc.push _).size ≤ sizeLine + 1; rw [Array.size_push, asz]; exact Nat.succ_le_succ (Nat.le_of_lt (Nat.lt_of_lt_of_le hlt hz)))
      rw [Array.toList_push, List.take_add_one, List.getElem?_eq_getElem hlt]
      exact strs_app hacc)) fun fa' hfa cc => ?_
    rw [hf] at hfa; cases hfa
    exact cc
theorem map_collect (O : B.Ok) {H : Heap} {f : Str} {I T J l fa : Addr} {items : Array Value} {xs : List Str} {Q : List Value → Shared → Prop} {E : Value → Shared → Prop} {s : Shared} (rm : Room (k + 1) A.in1.in1) (hf : B.mg f = some (.ref fa)) (hc : ∀ x, x ∈ xs → Calls B (k + 1) f [.str x] (.str x))
    (hp : H.PlainList l items) (hs : StrsAre items.toList xs) (hJH : H.get? J = none) (hJn : B.n₀ ≤ J) (hz : xs.length ≤ sizeLine) (old : Old H s.heap) (inv : Inv B A s)
    (hI : s.heap.get? I = some (mapObj T fa)) (hT : s.heap.get? T = some (tupObj J)) (hJ : s.heap.IsListIter J l 0)
    (hQ : ∀ s' (acc : Array Value), Inv B A s' → Kp H s'.heap → StrsAre acc.toList xs → Q acc.toList s') : wpAny B.M A (collect (.ref I)) Q E s := by
  have hSI : s.heap.objs.size ≠ I := Nat.ne_of_gt (Heap.lt_size hI)
  have hTy : s.TypeIs (.ref I) "map" := ⟨_, hI, rfl⟩
  unfold collect
  refine wpAny_bind (wpAny_runValue (codeAny_builtin F.entry_proto_collect ?_))
  rw [Around.under_plainId F.plain_proto_collect _]
  show wpAny _ A.in1 (PySem.newList [] >>= fun l => again (.builtin "list.__iadd__" ⟨[l, .ref I], []⟩)) _ _ s
  refine wpAny_bind (wpAny_newObj_type ?_)
  refine wpAny_pure ⟨plainId_quiet F.plain_list_iadd _, codeAny_builtin F.entry_list_iadd ?_⟩
  rw [Around.under_plainId F.plain_list_iadd _]
  have hI₁ : (s.heap.push { cls := .type "list", data := .seq ([] : List Value).toArray }).get? I = some (mapObj T fa) := Heap.get?_push_of_some _ hI
  have hTy₁ : Shared.TypeIs { s with heap := s.heap.push { cls := .type "list", data := .seq ([] : List Value).toArray } } (.ref I) "map" := ⟨_, hI₁, rfl⟩
  show wpAny _ A.in1 (Builtin.List.listExtendWith (.ref s.heap.objs.size) (.ref I) (.ref s.heap.objs.size)) _ _ _
  unfold Builtin.List.listExtendWith
  refine wpAny_bind (wpAny_typeOf hTy₁ ?_)
  have h1 : Builtin.List.listSameRef (.ref s.heap.objs.size) (.ref I) = false := by simp [Builtin.List.listSameRef, hSI]
  have h2 : (Value.type "map" == Value.type "list") = false := by decide
  have h3 : (Value.type "map" == Value.type "tuple") = false := by decide
  simp only [h1, h2, h3, Bool.or_false, Bool.false_eq_true, if_false]
  refine wpAny_bind (map_iter hI₁ ?_)
  refine wpAny_bind (wpAny_holding ?_)
  unfold Builtin.List.listLengthHint
  refine wpAny_bind (wpAny_specialOf hTy₁ map_no_len ?_)
  show wpAny _ A.in1 (specialOf (Value.ref I) (Str.ofString "__length_hint__") >>= _) _ _ _
  refine wpAny_bind (wpAny_specialOf hTy₁ map_no_hint ?_)
  refine wpAny_pure ?_
  show wpAny _ A.in1 (rule "list.extend.makes-room" >>= fun _ => Builtin.List.listTouch (.ref s.heap.objs.size) >>= fun _ =>
    again (.builtin "list.extend.loop" ⟨[.ref s.heap.objs.size, .ref I, .ref s.heap.objs.size], []⟩)) _ _ _
  refine wpAny_bind (wpAny_rule ?_)
  have hS₁ : (s.heap.push { cls := .type "list", data := .seq ([] : List Value).toArray }).get? s.heap.objs.size = some { cls := .type "list", data := .seq ([] : List Value).toArray } := Heap.get?_push_size _ rfl
  refine wpAny_bind ?_
  show wpAny _ A.in1 (updateSeq s.heap.objs.size (·.push .none) >>= fun _ => updateSeq s.heap.objs.size (·.pop)) _ _ _
  refine wpAny_bind (wpAny_updateSeq hS₁ rfl ?_)
  have hS₂ := Heap.get?_update_self (Obj.mapSeq (·.push Value.none)) hS₁ rfl
  refine wpAny_updateSeq hS₂ rfl ?_
  have hS₃ := Heap.get?_update_self (Obj.mapSeq (·.pop)) hS₂ rfl
  have oth : ∀ b o, b ≠ s.heap.objs.size → s.heap.get? b = some o →
      (((s.heap.push { cls := .type "list", data := .seq ([] : List Value).toArray }).update s.heap.objs.size (Obj.mapSeq (·.push Value.none))).update s.heap.objs.size (Obj.mapSeq (·.pop))).get? b = some o :=
    fun b o hb e => (Heap.get?_update_other _ _ (Ne.symm hb)).trans ((Heap.get?_update_other _ _ (Ne.symm hb)).trans (Heap.get?_push_of_some _ e))
  have ltn : ∀ b o, s.heap.get? b = some o → b ≠ s.heap.objs.size := fun b o e => Nat.ne_of_lt (Heap.lt_size e)
  have hSH : H.get? s.heap.objs.size = none := by
    cases q : H.get? s.heap.objs.size with
    | none => rfl
    | some o => exact absurd (Heap.lt_size (old _ _ q)) (Nat.lt_irrefl _)
  refine wpAny_pure ⟨plainId_quiet F.plain_extend_loop _, map_loop O rm hf hc hp hs hJH hSH hJn (O.size _ inv.good) hz _ 0 _ _ _ rfl (Nat.zero_le _)
    (inv.keep O (tk := s.toks) fun b o e => oth b o (ltn b o e) e).in1 (.of fun b o e => oth b o (ltn b o (old b o e)) (old b o e)) (oth _ _ (ltn _ _ hI) hI) (oth _ _ (ltn _ _ hT) hT) (let ⟨o, e, r⟩ := hJ; ⟨o, oth _ _ (ltn _ _ e) e, r⟩) hS₃ .nil fun s' acc' c' i' kp' hS' hacc => ?_⟩
  show wpAny _ A (load s.heap.objs.size >>= _) _ _ s'
  refine wpAny_bind (wpAny_load hS' ?_)
  exact wpAny_pure (hQ s' acc' i'.of_in1 kp' hacc)
theorem code_tuple_map (O : B.Ok) {H : Heap} {f : Str} {I T J l fa : Addr} {items : Array Value} {xs : List Str} {Q₁ : Value → Shared → Prop} {E : Value → Shared → Prop} {s : Shared} (rm : Room (k + 1) A.in1.in1.in1) (hf : B.mg f = some (.ref fa)) (hc : ∀ x, x ∈ xs → Calls B (k + 1) f [.str x] (.str x))
    (hp : H.PlainList l items) (hs : StrsAre items.toList xs) (hJH : H.get? J = none) (hJn : B.n₀ ≤ J) (hz : xs.length ≤ sizeLine) (old : Old H s.heap) (inv : Inv B A.in1 s)
    (hI : s.heap.get? I = some (mapObj T fa)) (hT : s.heap.get? T = some (tupObj J)) (hJ : s.heap.IsListIter J l 0)
    (h : ∀ s' (acc : Array Value), Inv B A.in1 s' → Kp H s'.heap → StrsAre acc.toList xs → Q₁ (.ref s'.heap.objs.size) { s' with heap := s'.heap.push { cls := .type "tuple", data := .seq acc } }) :
    codeAny B.M A (.call (.builtin "tuple.__new__") ⟨[.type "tuple", .ref I], []⟩) (wants Q₁ E) s := by
  refine codeAny_of_tree ?_
  show wpAny _ A.in1 (do checkBuiltinCall "tuple.__new__" ⟨[.type "tuple", .ref I], []⟩; again (.builtin "tuple.__new__" ⟨[.type "tuple", .ref I], []⟩)) _ _ s
  refine wpAny_bind (wpAny_of_eq (F.newCall_tuple_1 _) (wpAny_pure ⟨plainId_quiet F.plain_tuple_new _, codeAny_builtin F.entry_tuple_new ?_⟩))
  rw [Around.under_plainId F.plain_tuple_new _]
  have hsub := sub_tuple_self
  have hinit := init_tuple_lookup
  have hmh := madeHere_tuple
  have hTI : s.TypeIs (.ref I) "map" := ⟨_, hI, rfl⟩
  have hcoll := fun Q E hQ => map_collect (A := A.in1) (E := E) (Q := Q) O rm hf hc hp hs hJH hJn hz old inv hI hT hJ hQ
  wp_walk using wpAny_typeOf hTI, hcoll
  intro s' acc i' hk hacc
  have asz : acc.size ≤ sizeLine := by rw [show acc.size = xs.length from strs_len hacc]; exact hz
  show wpAny _ _ (Builtin.Tuple.tupleExact acc.toList.toArray >>= fun v => ret v) _ _ _
  unfold Builtin.Tuple.tupleExact
  refine wpAny_bind (wpAny_newObj_type ?_ (by show acc.toList.toArray.size ≤ sizeLine; simp only [Array.toArray_toList]; exact asz))
  refine wpAny_pure ?_
  have e : acc.toList.toArray = acc := by simp
  rw [e]
  exact h s' acc i' hk hacc
end
section
variable {B : Base} {k : Nat} {K : Kinds} {Γ Γ' : G} {V V' V₀ W : Addr → Prop} {h h' : Heap} {env : Env} {A : Around} {s : Shared}
theorem Ev.tupMap (O : B.Ok) {f : Str} {p p1 p2 p3 p4 : Pos} {e : Expr} {xs : List Str} (bt : BltAt B "tuple" (.type "tuple")) (hKt : K "tuple" = some .globalImplicit) (bm : BltAt B "map" (.type "map")) (hKm : K "map" = some .globalImplicit) (hKf : K f = some .globalImplicit)
    (y : EvB B (k + 5) K Γ e (.list (sl xs))) (hc : ∀ x, x ∈ xs → Calls B (k + 1) f [.str x] (.str x)) (hf : ∃ fa, B.mg f = some (.ref fa)) (hz : xs.length ≤ sizeLine) (hs : notStar e = true := by rfl) (hd : (f == ("__debug__" : Str)) = false := by decide) :
    Ev B (k + 5) K Γ (.Call (.Name "tuple" p) [.Call (.Name "map" p1) [.Name f p2, e] [] p3] [] p4) (.tup (sl xs)) := .mk fun A env V s Q E rm eo i g h => by
  refine byE (hf) fun fa hf => ?_
  refine Call_ (glob_blt O bt hKt eo i (callWith_blt (f := .type "tuple") (by rfl) (by rfl) ?_))
  rw [starEach_cons rfl, starEach_nil]
  refine Calls.spliced_cons (Call_ (glob_blt O bm hKm eo i (callWith_blt (f := .type "map") (by rfl) (by unfold noStars noStars noStars; rw [hs]; rfl) ?_)))
  rw [starEach_cons rfl, starEach_cons hs, starEach_nil]
  refine Calls.spliced_cons (glob_fn O hf hKf eo i (Calls.spliced_cons (y.run A env V s _ _ rm eo i g fun v s₁ i₁ k₁ l₁ => ?_)) hd)
  (refine byEEA (l₁.asList) fun l items hq1 hr2 => ?_; subst hq1; refine byA (hr2) fun il ls => ?_; (try clear hr2))
  refine Calls.spliced_nil (call_map (prog := B.prog) (w := B.w) il fun h' a1 a2 a3 old => ?_)
  refine Calls.spliced_nil ?_
  have sz : s₁.heap.objs.size + 2 < h'.objs.size := Heap.lt_size a3
  have hT2 : Shared.TypeIs { s₁ with heap := h' } (.ref (s₁.heap.objs.size + 2)) "map" := ⟨_, a3, rfl⟩
  have rm4 : Room (k + 1) A.in1.in1.in1.in1 := Room.in1 (k := k + 1) (Room.in1 (k := k + 2) (Room.in1 (k := k + 3) (Room.in1 (k := k + 4) rm)))
  refine callType_codes (Q₁ := fun obj s₂ => s₂.TypeIs obj "tuple" ∧ Q obj s₂) F.called_tuple (F.typeCall_tuple_1 _) F.entry_object_init
    (code_tuple_map (A := A.in1) (H := s₁.heap) (f := f) (I := s₁.heap.objs.size + 2) (T := s₁.heap.objs.size + 1) (J := s₁.heap.objs.size) (l := l) (fa := fa) (items := items) (xs := xs) O rm4 hf hc il (strsAre_of ls) (none_size (Nat.le_refl _)) (O.size _ i₁.good) hz old (i₁.keep O (tk := s₁.toks) old).in1.in1 a3 a2 ⟨_, a1, rfl, rfl⟩ fun s' acc i' kp' hacc => ⟨⟨_, Heap.get?_push_size _ rfl, rfl⟩, ?_⟩) fun obj s₂ h₂ => ?_
  · have kp2 : ∀ b o, s'.heap.get? b = some o → (s'.heap.push { cls := .type "tuple", data := .seq acc }).get? b = some o := fun b o e => Heap.get?_push_of_some _ e
    refine h _ _ (i'.of_in1.of_in1.keep O (tk := s'.toks) kp2) (k₁.trans (kp'.trans (.of kp2))) ?_
    simp only [Lay]
    refine ⟨_, rfl, fun q => ?_, acc, ⟨_, Heap.get?_push_size _ rfl⟩, lays_strsAre hacc⟩
    refine byE ((((g.kp k₁).kp kp').dom _ q)) fun o e => ?_
    exact absurd (Heap.lt_size e) (Nat.lt_irrefl _)
  · exact ⟨h₂.1, F.args_object_init_2 obj _, object_init_meets F.called_tuple.init.lookup F.called_tuple.made (by decide) B.prog B.w A.in1 _ s₂ ⟨h₂.1, rfl, h₂.2⟩⟩
end
end Jv
namespace Jv
open PySem PySem.W PySem.Calls PyProof.Rows
open AutoSeq1 (wpAny_loadPart')
noncomputable def hb (b : Bool) : Int := if b then 1 else 0
noncomputable def boolTab (b led : Bool) : SetTable := { mask := 7, place := #[if b then 1 else 0], dummies := #[], finger := 0, led := led, moves := 0, plain := true }
noncomputable def set0 (led : Bool) : Obj := { cls := .type "set", dict := none, data := .set #[] 0 (.fresh 0 0 led) }
noncomputable def set1 (b led : Bool) (ep : Nat) : Obj := { cls := .type "set", dict := none, data := .set #[(hb b, .bool b)] ep (boolTab b led) }
theorem layNew_bool (b led : Bool) : layNew (.fresh 0 0 led) #[] (hb b) (.bool b) = (#[(hb b, .bool b)], boolTab b led, false, false) := by
  cases b <;> cases led <;> decide +kernel
section
variable {prog : Program} {w : World} {A : Around} {E : Value → Shared → Prop} {s : Shared}
theorem pyHash_bool {b : Bool} {Q : Int → Shared → Prop} (h : Q (hb b) { s with toks := s.toks + 1 }) : wpAny (model prog w) A (PySem.pyHash (.bool b)) Q E s := by
  have hT : s.TypeIs (.bool b) "bool" := rfl
  unfold pyHash
  have hv : [Value.bool b].any Value.onHeap = false := rfl
  refine wpAny_bind ?_
  rw [cRoomFor, if_neg (by rw [hv]; exact Bool.false_ne_true)]; refine wpAny_pure ?_
  refine wpAny_bind (wpAny_specialOf hT F.slot_bool_hash.lookup ?_)
  show wpAny _ _ (if (some (Value.builtin "int.__hash__") == some Value.none) = true then _ else _) Q E s
  rw [if_neg (by rw [beq_builtin_none]; exact Bool.false_ne_true)]
  refine wpAny_bind (wpAny_specialOf hT F.slot_bool_hash.lookup ?_)
  show wpAny _ _ (callSpecialIfBoundUnlessNone? (.bool b) "__hash__" _ >>= _) Q E s
  refine wpAny_bind (wpAny_callSpecialIfBoundUnlessNone?_slot hT F.slot_bool_hash
    (wpAny_call_entry F.slot_bool_hash hT F.entry_int_hash
      (show wpAny _ _ (do ret (← mkInt (rawHash (if b then 1 else 0)))) _ _ s from wpAny_ret_mkInt ?_) (F.args_int_hash_1 _)))
  cases b
  · show wpAny _ _ (if (decide (-(2 : Int) ^ 63 ≤ rawHash 0) && decide (rawHash 0 < 2 ^ 63)) = true then _ else _) Q E _
    rw [if_pos (by decide +kernel)]
    exact wpAny_pure h
  · show wpAny _ _ (if (decide (-(2 : Int) ^ 63 ≤ rawHash 1) && decide (rawHash 1 < 2 ^ 63)) = true then _ else _) Q E _
    rw [if_pos (by decide +kernel)]
    exact wpAny_pure h
theorem addB0 {a : Addr} {b led : Bool} {Q : Bool → Shared → Prop} (ho : s.heap.get? a = some (set0 led))
    (h : ∀ h', Heap.SameBut a s.heap h' → h'.get? a = some (set1 b led 1) → Q true { s with heap := h' }) : wpAny (model prog w) A (setAddHashed a (.bool b) (hb b)) Q E s := by
  unfold setAddHashed setAddHashedIn
  refine wpAny_holding (wpAny_bind (wpAny_setState_of ho rfl (by cases led <;> rfl) ?_))
  dsimp only
  rw [show byScan (.bool b) #[] = true by simp [byScan, Value.scannable, scanBound]]
  simp only [↓reduceIte]
  unfold setAddByScan
  refine wpAny_bind ?_
  refine wpAny_bind (wpAny_rule ?_)
  refine wpAny_bind ?_
  show wpAny _ _ (pure ScanMet.absent) _ _ _
  refine wpAny_pure ?_
  dsimp only
  rw [layNew_bool]
  dsimp only
  refine wpAny_bind (wpAny_pure ?_)
  refine wpAny_bind ?_
  rw [hashByValue_scannable 8 rfl]
  refine wpAny_pure ?_
  simp only [plainKind, if_true]
  refine wpAny_bind (wpAny_storeSet_of ho rfl ?_ (by show 1 ≤ sizeLine; decide))
  rw [show (boolTab b led).tooFull = false by cases b <;> cases led <;> decide]
  simp only [Bool.and_false, Bool.false_eq_true, if_false]
  refine wpAny_pure (wpAny_pure (h _ (Heap.SameBut.update ..) ?_))
  rw [Heap.get?_update_self _ ho (by rfl)]
  rfl
theorem addB1 {a : Addr} {b led : Bool} {ep : Nat} {Q : Bool → Shared → Prop} (ho : s.heap.get? a = some (set1 b led ep)) (h : Q false s) : wpAny (model prog w) A (setAddHashed a (.bool b) (hb b)) Q E s := by
  unfold setAddHashed setAddHashedIn
  have hfit : (boolTab b led).fits 1 = true := by cases b <;> cases led <;> decide
  refine wpAny_holding (wpAny_bind (wpAny_setState_of ho rfl hfit ?_))
  dsimp only
  rw [show byScan (.bool b) #[(hb b, .bool b)] = true by simp [byScan, Value.scannable, scanBound]]
  simp only [↓reduceIte]
  unfold setAddByScan
  refine wpAny_bind ?_
  refine wpAny_bind (wpAny_rule ?_)
  refine wpAny_bind ?_
  show wpAny _ _ (setScanFrom a (.bool b) (hb b) true [(hb b, .bool b)] 0) _ _ _
  unfold setScanFrom
  rw [if_pos (by simp)]
  refine wpAny_bind (wpAny_setEpoch_of ho rfl hfit ?_)
  refine wpAny_bind (PySem.SeqAt.EqAt.same (.bool b) prog w _ _ ?_)
  simp only [Bool.and_self, if_true]
  exact wpAny_pure (wpAny_pure (wpAny_pure h))
theorem set_add_any {a : Addr} {b led c : Bool} {Q : Value → Shared → Prop} (ho : s.heap.get? a = some (if c then set1 b led 1 else set0 led))
    (h : ∀ h', Heap.SameBut a s.heap h' → h'.get? a = some (set1 b led 1) → Q .none { s with heap := h', toks := s.toks + 1 }) :
    wpAny (model prog w) A (call (.builtin "set.add") [.ref a, .bool b]) Q E s := by
  have hT : s.TypeIs (.ref a) "set" := ⟨_, ho, by cases c <;> rfl⟩
  refine wpAny_call_entry F.slot_set_add hT F.entry_set_add ?_ (F.args_set_add_2 _ _)
  unfold Builtin.«set.add» Builtin.Frozenset.oneOther
  simp only [List.isEmpty_nil, bind_assoc]
  unfold Builtin.Frozenset.addrOf setAdd
  refine wpAny_bind (wpAny_pure ?_)
  try dsimp only
  refine wpAny_bind (wpAny_pure ?_)
  try dsimp only
  refine wpAny_bind ?_
  refine wpAny_holding ?_
  refine wpAny_bind (pyHash_bool ?_)
  cases c with
  | false =>
    refine addB0 (s := { s with toks := s.toks + 1 }) (led := led) ho fun h' hs he => ?_
    show wpAny _ _ (ret Value.none) _ _ _
    exact wpAny_pure ⟨_, rfl, h h' hs he⟩
  | true =>
    refine addB1 (s := { s with toks := s.toks + 1 }) (led := led) ho ?_
    show wpAny _ _ (ret Value.none) _ _ _
    exact wpAny_pure ⟨_, rfl, h s.heap (Heap.SameBut.refl a s.heap) ho⟩
end
noncomputable def SetAcc (b led c : Bool) (h : Heap) (a : Addr) : Prop := h.get? a = some (if c then set1 b led 1 else set0 led)
noncomputable def DnOk (b : Bool) (dn : List D) (c : Bool) : Prop := c = !dn.isEmpty
section
variable {prog : Program} {w : World} {A : Around} {E : Value → Shared → Prop} {s : Shared} {R : Result → Shared → Prop}
theorem set_addB {a : Addr} {b led c : Bool} {Q : Value → Shared → Prop} (ho : SetAcc b led c s.heap a)
    (h : ∀ h', Heap.SameBut a s.heap h' → SetAcc b led true h' a → Q .none { s with heap := h', toks := s.toks + 1 }) :
    wpAny (model prog w) A (call (.builtin "set.add") [.ref a, .bool b]) Q E s := set_add_any ho h
theorem compTurn_set (elt target iter : Expr) (ifs : List Expr) (scope : Scope) (pos : Pos) (it acc : Value) (env : Env) :
    compTurn (.SetComp elt [⟨target, iter, ifs, 0⟩] scope pos) 0 it acc env = (do
      standAt iter.pos
      match ← pyNext it with
      | none => pure (.done .next)
      | some v =>
        letOwnedTupleGo target it v
        PySem.assign target env v
        let mut ok := true
        for c in ifs do
          if ok then ok ← PySem.isTrue c env (eval c env)
        if ok then
          (do let v ← eval elt env; standAt elt.pos; let _ ← call (.builtin "set.add") [acc, v])
        again (.compLoop (.SetComp elt [⟨target, iter, ifs, 0⟩] scope pos) 0 it acc env)) := by rfl
theorem codeAny_compStart_set {elt target iter ifs rest scope pos it acc env}
    (h0 : codeAny (model prog w) A (.compLoop (.SetComp elt (⟨target, iter, ifs, 0⟩ :: rest) scope pos) 0 it acc env) R s)
    (h : wpAny (model prog w) A (pyIter it) (fun it' s' => codeAny (model prog w) A (.compLoop (.SetComp elt (⟨target, iter, ifs, 0⟩ :: rest) scope pos) 0 it' acc env) R s')
      (notedBy (model prog w) A env fun x s' => R (.error x) s') s) :
    codeAny (model prog w) A (.compStart (.SetComp elt (⟨target, iter, ifs, 0⟩ :: rest) scope pos) 0 it acc env) R s := by
  refine codeAny_of_tree ?_
  show wpAny _ _ ((compStart (.SetComp elt (⟨target, iter, ifs, 0⟩ :: rest) scope pos) 0 it acc env).onRaise (fun x => do noteFrame x env; standAt theWindowsPlace)) _ _ s
  refine wpAny_notedAt ?_
  unfold compStart
  show wpAny _ _ (ask >>= _) _ _ s
  refine wpAny_bind (wpAny_askSetting (wpAny_ite ?_))
  split
  · first
      | exact wpAny_bind (wpAny_pure (wpAny_pure (And.intro rfl h0)))
      | exact wpAny_pure (And.intro rfl h0)
  · first
      | exact wpAny_bind (wpAny_rule (wpAny_bind (wpAny_standAt (wpAny_bind (wpAny_mono h (fun it' s' h' => wpAny_pure (And.intro rfl h')) fun _ _ x => x)))))
      | (refine wpAny_bind (wpAny_rule ?_); show wpAny _ _ (standAt iter.pos >>= _) _ _ s; exact wpAny_bind (wpAny_standAt (wpAny_bind (wpAny_mono h (fun it' s' h' => wpAny_pure (And.intro rfl h')) fun _ _ x => x))))
theorem codeAny_compLoop_testsS {elt target iter : Expr} {ifs : List Expr} {scope : Scope} {pos : Pos} {it acc : Value} {env : Env} (I : Nat → Shared → Prop)
    (turn : ∀ n s, I n s → wpAny (model prog w) A (pyNext it) (fun r s₁ => match r with
      | none => R (.ok .next) s₁
      | some v => wpAny (model prog w) A (PySem.assign target env v) (fun _ s₂ =>
          wpAny (model prog w) A (forIn ifs true fun c r => if r = true then do let ok ← PySem.isTrue c env (eval c env); pure (ForInStep.yield ok) else pure (ForInStep.yield r)) (fun ok s₃ =>
            if ok = true then wpAny (model prog w) A (eval elt env) (fun x s₄ =>
              wpAny (model prog w) A (call (.builtin "set.add") [acc, x]) (fun _ s₅ => ∃ m, m < n ∧ I m s₅) (notedBy (model prog w) A env fun e s' => R (.error e) s') s₄) (notedBy (model prog w) A env fun e s' => R (.error e) s') s₃
            else ∃ m, m < n ∧ I m s₃) (notedBy (model prog w) A env fun e s' => R (.error e) s') s₂) (notedBy (model prog w) A env fun e s' => R (.error e) s') s₁) (notedBy (model prog w) A env fun e s' => R (.error e) s') s)
    (n : Nat) (h : I n s) (ht : ∀ v, letOwnedTupleGo target it v = pure () := by intro _; rfl) :
    codeAny (model prog w) A (.compLoop (.SetComp elt [⟨target, iter, ifs, 0⟩] scope pos) 0 it acc env) R s := by
  refine codeAny_loop rfl I (fun n s hI => ?_) n h
  show wpAny _ A ((compTurn (.SetComp elt [⟨target, iter, ifs, 0⟩] scope pos) 0 it acc env).onRaise (fun x => do noteFrame x env; theTreesLotGoes x)) _ _ s
  refine wpAny_noted ?_
  rw [compTurn_set]
  refine wpAny_bind (wpAny_standAt (wpAny_bind (wpAny_mono (turn n s hI) (fun r s₁ h₁ => ?_) fun _ _ h' => h')))
  cases r with
  | none => exact wpAny_pure h₁
  | some v =>
    refine wpAny_bind (wpAny_of_eq (ht v) ?_)
    refine wpAny_bind (wpAny_mono h₁ (fun _ s₂ h₂ => wpAny_bind (wpAny_mono h₂ (fun ok s₃ h₃ => ?_) fun _ _ h' => h')) fun _ _ h' => h')
    cases ok with
    | false => exact wpAny_pure ⟨rfl, h₃⟩
    | true =>
      exact wpAny_bind (wpAny_bind (wpAny_mono h₃ (fun x s₄ h₄ => wpAny_bind (wpAny_standAt (wpAny_bind (wpAny_mono h₄ (fun _ s₅ h₅ => wpAny_pure (wpAny_pure ⟨rfl, h₅⟩)) fun _ _ h' => h')))) fun _ _ h' => h'))
end
section
variable {B : Base} {k : Nat} {K : Kinds} {Γ Γ' : G} {V Wc : Addr → Prop} {h h' : Heap} {env : Env} {x : Str}
theorem CStm.appS (st : CStm B V Wc h env x Γ) {a : Addr} (hs : Heap.SameBut a h h') (wa : Wc a) (ho : ∃ o, h.get? a = some o ∧ o.cls = .type "set") (ht : ∃ o', h'.get? a = some o' ∧ o'.cls = .type "set") : CStm B V Wc h' env x Γ := by
  (refine byEA (ho) fun oa hoa hca => ?_; (try clear ho))
  (refine byA (st.loc) fun wl hr1 => ?_; refine byEE (hr1) fun ol es hr2 => ?_; (try clear hr1); refine byEAA (hr2) fun ep hol hcl hdl => ?_; (try clear hr2))
  have hla : env.locals ≠ a := by
    rintro q
    rw [q, hoa] at hol; cases hol
    rw [hca] at hcl; exact absurd hcl (by simp)
  have keep : ∀ b o, ¬ Wc b → h.get? b = some o → h'.get? b = some o := fun b o nb e => (hs.2 b fun q => nb (q ▸ wa)).trans e
  have keepK : ∀ b o, ¬ V b → h.get? b = some o → IsData o → ¬ V b ∧ h'.get? b = some o := fun b o nb e _ => ⟨nb, keep b o (fun q => nb (st.sub b q).1) e⟩
  have cell : ∀ c v, CellAt h c v → CellAt h' c v := fun c v hx => by (refine byEAA (hx) fun o h1 h2 h3 => ?_; (try clear hx)); exact ⟨o, (hs.2 c (by rintro rfl; rw [hoa] at h1; cases h1; rw [hca] at h2; exact absurd h2 (by simp))).trans h1, h2, h3⟩
  have fw : ∀ y w, Looks h env y w → Looks h' env y w := fun y w l => by
    rcases l with ⟨e, m, am, bm⟩ | ⟨e, c, am, bm⟩
    · exact .inl ⟨e, m, am.kept fun o eo => .inl ((hs.2 _ hla).trans eo), bm⟩
    · exact .inr ⟨e, c, am, cell c _ bm⟩
  refine ⟨⟨fun b hb => ?_, fun y sl e => ?_⟩, st.sub, ⟨wl, ol, es, ep, (hs.2 _ hla).trans hol, hcl, hdl⟩, ?_, st.apart, fun y a? d v e l => ?_⟩
  · by_cases q : b = a
    · subst q; (refine byEA (ht) fun o' h1 h2 => ?_; (try clear ht)); exact ⟨o', h1, fun q => q.1 (.inr (.inr (.inr h2)))⟩
    · refine byEA (st.r.domP b hb) fun o e n => ?_; exact ⟨o, (hs.2 b q).trans e, n⟩
  · refine byEA (st.r.vars y sl e) fun w l hh => ?_
    refine ⟨w, fw y w l, ?_⟩
    cases sl with
    | sh d' => exact Lay.mono keepK hh
    | own a? d' =>
      (refine byEAAA (hh) fun r e' f g c => ?_; (try clear hh))
      refine byEA (st.nown y a? d' w e l) fun r' e'' nr => ?_
      subst e'; cases e''
      exact ⟨r, rfl, f, g, c.mono keepK fun o eo _ => keep r o nr eo⟩
  · rcases st.tgt with t | ⟨t, c, h1, h2, v, h3⟩
    · exact .inl t
    · exact .inr ⟨t, c, h1, h2, v, cell c v h3⟩
  · refine byEA (st.r.vars y _ e) fun w l' _ => ?_
    exact st.nown y a? d v e ((fw y w l').same l ▸ l')
theorem comp_loopS (O : B.Ok) {A : Around} {I D₀ : Addr} {fp bp : Addr → Prop} {St : (Addr → Prop) → List D → Heap → Prop} {StO : (Addr → Prop) → List D → Value → Heap → Prop} {px pos : Pos} {iter elt : Expr} {ifs : List Expr} {sc : Scope} {s : Shared} {R : Result → Shared → Prop} {ds out : List D} {b led : Bool}
    (rm : Room k A) (eo : EnvOk K env) (i : Inv B A s) (it : Iter B A I fp bp false St StO) (st : CStm B V Wc s.heap env x Γ) (hx0 : Γ.lookup x = none) (hst : St V ds s.heap)
    (hacc : SetAcc b led false s.heap D₀) (wD : Wc D₀) (hDl : D₀ ≠ env.locals) (hDc : env.cells.lookup x ≠ some D₀) (hf : ∀ b, fp b → ¬ Wc b) (hb : ∀ b, bp b → ¬ Wc b)
    (c : CompR B k K Γ x ifs elt ds out) (hob : ∀ d, d ∈ out → d = D.bool b)
    (hR : ∀ s' ys, Inv B A s' → (∀ b o, s.heap.get? b = some o → ¬ Wc b → ¬ fp b → Kept s'.heap b o) → CStm B V Wc s'.heap env x Γ → SetAcc b led ys s'.heap D₀ → DnOk b out ys → R (.ok .next) s') :
    codeAny B.M A (.compLoop (.SetComp elt [⟨.Name x px, iter, ifs, 0⟩] sc pos) 0 (.ref I) (.ref D₀) env) R s := by
  refine codeAny_compLoop_testsS (fun n s' => ∃ ds' dn out' ys, n = ds'.length ∧ Inv B A s' ∧ (∀ b o, s.heap.get? b = some o → ¬ Wc b → ¬ fp b → Kept s'.heap b o) ∧ CStm B V Wc s'.heap env x Γ ∧ St V ds' s'.heap ∧
    CompR B k K Γ x ifs elt ds' out' ∧ dn ++ out' = out ∧ SetAcc b led ys s'.heap D₀ ∧ DnOk b dn ys) ?_ ds.length
    ⟨ds, [], out, false, rfl, i, fun b o e _ _ => .inl e, st, hst, c, rfl, hacc, rfl⟩
  rintro n s' ⟨ds', dn, out', ys, rfl, i', kp', st', hst', c', rfl, hl', ls'⟩
  have kpt : ∀ {h₁ h₂ : Heap}, (∀ b o, s.heap.get? b = some o → ¬ Wc b → ¬ fp b → Kept h₁ b o) → KpOff (fun b => Wc b ∨ fp b) h₁ h₂ → ∀ b o, s.heap.get? b = some o → ¬ Wc b → ¬ fp b → Kept h₂ b o := fun x y b o e nw nf =>
    KpOff.trans (W := fun b => Wc b ∨ fp b) (W' := fun b => Wc b ∨ fp b) (fun b o nb e => x b o e (fun q => nb (.inl q)) fun q => nb (.inr q)) y (fun b o q _ => q) b o (fun q => q.elim nw nf) e
  have turn : ∀ (d : D) (ds₁ : List D) (Q : Option Value → Shared → Prop) (E : Value → Shared → Prop), ds' = d :: ds₁ →
      (∀ v s₂, Inv B A s₂ → (∀ b o, s.heap.get? b = some o → ¬ Wc b → ¬ fp b → Kept s₂.heap b o) → CStm B V Wc s₂.heap env x Γ → St V ds₁ s₂.heap → SetAcc b led ys s₂.heap D₀ → DnOk b dn ys → Lay B V s₂.heap d v → Q (some v) s₂) →
      wpAny B.M A (pyNext (.ref I)) Q E s' := by
    intro d ds₁ Q E e hQ
    subst e
    refine it.item _ d ds₁ s' _ _ i' st'.r.dom hst' fun v s₂ i₂ so₂ off₂ l₂ => ?_
    have st₂ := it.plain rfl _ _ _ _ so₂
    have dm₂ : Dom s'.heap s₂.heap := dom_off off₂ fun b f => let ⟨o, e, _⟩ := it.there _ _ _ b st₂ f; ⟨o, e⟩
    have kq₂ := kq_off off₂ (fun b f => it.there _ _ _ b hst' f)
    refine hQ v s₂ i₂ (kpt kp' fun b o nb e => .inl (off₂ b o e fun f => nb (.inr f))) (st'.kq kq₂ fun o e => off₂ _ o e fun f => hf _ f st'.loc.1) st₂ ?_ ls' (l₂.mono fun b o nb e _ => ⟨fun q => nb (.inl q), e⟩)
    exact off₂ _ _ hl' (fun f => hf _ f wD)
  have store : ∀ (d : D) (ds₁ : List D) (v : Value) (s₂ : Shared) (Q : Unit → Shared → Prop) (E : Value → Shared → Prop), Inv B A s₂ → (∀ b o, s.heap.get? b = some o → ¬ Wc b → ¬ fp b → Kept s₂.heap b o) → CStm B V Wc s₂.heap env x Γ → St V ds₁ s₂.heap → SetAcc b led ys s₂.heap D₀ → DnOk b dn ys → Lay B V s₂.heap d v →
      (∀ s₃, Inv B A s₃ → (∀ b o, s.heap.get? b = some o → ¬ Wc b → ¬ fp b → Kept s₃.heap b o) → CStm B V Wc s₃.heap env x (put Γ x (.sh d)) → St V ds₁ s₃.heap → SetAcc b led ys s₃.heap D₀ → DnOk b dn ys → Q () s₃) →
      wpAny B.M A (PySem.assign (.Name x px) env v) Q E s₂ := by
    intro d ds₁ v s₂ Q E i₂ kp₂ cs₂ st₂ hl₂ ls₂ l₂ hQ
    refine wpAny_assign_Name (cstore O eo i₂ cs₂ l₂ fun s₃ i₃ wx off₃ cs₃ => ?_)
    have keepK : ∀ b o, ¬ V b → s₂.heap.get? b = some o → IsData o → ¬ V b ∧ s₃.heap.get? b = some o := fun b o nb e _ => ⟨nb, wx b o (fun q => nb (cs₂.sub b q).1) e⟩
    refine hQ s₃ i₃ (kpt kp₂ fun b o nb e => .inl (wx b o (fun q => nb (.inl q)) e)) cs₃ ?_ ?_ ls₂
    · refine it.frame _ _ _ _ _ st₂ (fun b q => .inl q) fun b o e q => ?_
      rcases q with q | q | q
      · exact wx b o (hf b q) e
      · exact wx b o (hb b q) e
      · exact wx b o (fun w => q.1 (cs₂.sub b w).1) e
    · exact off₃ _ _ hDl hDc hl₂
  have pure' : ∀ (d : D) (ds₁ : List D) (s₃ s₄ : Shared), Inv B A s₄ → Kp s₃.heap s₄.heap → (∀ b o, s.heap.get? b = some o → ¬ Wc b → ¬ fp b → Kept s₃.heap b o) → CStm B V Wc s₃.heap env x (put Γ x (.sh d)) → St V ds₁ s₃.heap → SetAcc b led ys s₃.heap D₀ → DnOk b dn ys →
      (∀ b o, s.heap.get? b = some o → ¬ Wc b → ¬ fp b → Kept s₄.heap b o) ∧ CStm B V Wc s₄.heap env x (put Γ x (.sh d)) ∧ St V ds₁ s₄.heap ∧ SetAcc b led ys s₄.heap D₀ ∧ DnOk b dn ys := by
    intro d ds₁ s₃ s₄ i₄ k₄ kp₃ cs₃ st₃ hl₃ ls₃
    refine ⟨kpt kp₃ (k₄.off _), cs₃.kq k₄.q fun o e => ?_, ?_, ?_, ls₃⟩
    · (refine byA (cs₃.loc) fun _ hr3 => ?_; refine byEE (hr3) fun ol es hr4 => ?_; (try clear hr3); refine byEAA (hr4) fun ep hol hcl _ => ?_; (try clear hr4))
      rw [hol] at e; cases e
      exact (k₄ _ _ hol).exact (by rw [hcl]; simp) (by rw [hcl]; simp)
    · refine it.frame _ _ _ _ _ st₃ (fun b q => .inl q) fun b o e q => ?_
      rcases q with q | q | q
      · refine byEAA (it.there _ _ _ b st₃ q) fun o' e' p cn => ?_
        rw [e] at e'; cases e'
        exact (k₄ b o e).exact p.2.1 cn
      · refine byEA (it.data _ _ _ b st₃ q) fun o' e' p => ?_
        rw [e] at e'; cases e'
        exact p.kept (k₄ b o e)
      · exact q.2.kept (k₄ b o e)
    · exact (k₄ _ _ hl₃).exact (by cases ys <;> simp [set0, set1]) (by cases ys <;> simp [set0, set1])
  have less : ∀ (d : D) (h' : Heap), CStm B V Wc h' env x (put Γ x (.sh d)) → CStm B V Wc h' env x Γ := fun d h' z => z.less fun y sl e => put_none hx0 e
  cases c' with
  | nil =>
    refine it.done _ s' _ _ i' hst' fun s₂ i₂ off => ?_
    have kq := kq_off off (fun b f => it.there _ _ _ b hst' f)
    refine hR s₂ ys i₂ (kpt kp' fun b o nb e => .inl (off b o e fun f => nb (.inr f))) (st'.kq kq fun o e => off _ o e fun f => hf _ f st'.loc.1) ?_ (by simpa using ls')
    exact off _ _ hl' (fun f => hf _ f wD)
  | @skip d ds₁ _ ei cr =>
    refine turn d ds₁ _ _ rfl fun v s₂ i₂ kp₂ cs₂ st₂ hl₂ ls₂ l₂ => ?_
    refine store d ds₁ v s₂ _ _ i₂ kp₂ cs₂ st₂ hl₂ ls₂ l₂ fun s₃ i₃ kp₃ cs₃ st₃ hl₃ ls₃ => ?_
    refine ei.run A env V s₃ _ _ rm eo i₃ cs₃.r fun s₄ i₄ k₄ => ?_
    rw [if_neg (by simp)]
    refine byAAAA (pure' d ds₁ s₃ s₄ i₄ k₄ kp₃ cs₃ st₃ hl₃ ls₃) fun kp₄ cs₄ st₄ hl₄ ls₄ => ?_
    exact ⟨_, Nat.lt_succ_self _, ds₁, dn, out', ys, rfl, i₄, kp₄, less d _ cs₄, st₄, cr, rfl, hl₄, ls₄⟩
  | @take d ds₁ vd out₁ ei ee cr =>
    refine turn d ds₁ _ _ rfl fun v s₂ i₂ kp₂ cs₂ st₂ hl₂ ls₂ l₂ => ?_
    refine store d ds₁ v s₂ _ _ i₂ kp₂ cs₂ st₂ hl₂ ls₂ l₂ fun s₃ i₃ kp₃ cs₃ st₃ hl₃ ls₃ => ?_
    refine ei.run A env V s₃ _ _ rm eo i₃ cs₃.r fun s₄ i₄ k₄ => ?_
    rw [if_pos rfl]
    refine byAAAA (pure' d ds₁ s₃ s₄ i₄ k₄ kp₃ cs₃ st₃ hl₃ ls₃) fun kp₄ cs₄ st₄ hl₄ ls₄ => ?_
    refine ee.run A env V s₄ _ _ rm eo i₄ cs₄.r fun vv s₅ i₅ k₅ l₅ => ?_
    refine byAAAA (pure' d ds₁ s₄ s₅ i₅ k₅ kp₄ cs₄ st₄ hl₄ ls₄) fun kp₅ cs₅ st₅ hl₅ ls₅ => ?_
    obtain rfl : vd = D.bool b := hob vd (by simp)
    obtain rfl : vv = .bool b := l₅
    refine set_addB (prog := B.prog) (w := B.w) hl₅ fun h' hs' hl' => ?_
    have u6 : ∀ tk, Inv B A { s₅ with heap := h', toks := tk } := fun tk => i₅.sameBut O hs' (cs₅.sub _ wD).2 fun o e => by
      have e' : s₅.heap.get? D₀ = _ := hl₅
      rw [e'] at e; cases e; cases ys <;> simp [set0, set1]
    refine ⟨_, Nat.lt_succ_self _, ds₁, dn ++ [D.bool b], out₁, true, rfl, u6 _, kpt kp₅ (fun b o nb e => .inl ((hs'.2 b fun q => nb (.inl (q ▸ wD))).trans e)), less d _ (cs₅.appS hs' wD ⟨_, hl₅, by cases ys <;> rfl⟩ ⟨_, hl', rfl⟩), ?_, cr, by simp, hl', by simp [DnOk]⟩
    · refine it.frame _ _ _ _ _ st₅ (fun b q => .inl q) fun b o e q => ?_
      have nD : b ≠ D₀ := by
        rintro rfl
        rcases q with q | q | q
        · exact hf b q wD
        · exact hb b q wD
        · exact q.1 (cs₅.sub b wD).1
      exact (hs'.2 b nD).trans e
end
end Jv
namespace Jv
open PySem PySem.W PySem.Calls PyProof.Rows
open AutoSeq1 (wpAny_loadPart')
theorem entry_set_iter : entryFor table "set.__iter__" = some Builtin.«frozenset.__iter__» :=
  entryFor_alias (id' := "frozenset.__iter__") (by kernel_rfl) rfl (by decide +kernel) (by kernel_rfl)
theorem slot_setiter_next : PySem.Slot "set_iterator" "__next__" "set_iterator.__next__" :=
  .of (owner := "set_iterator") (n := "__next__") (by rw [typeLookup_type, builtinLookup_eq_fast]; kernel_rfl) (by decide +kernel) (by decide +kernel) (by decide +kernel)
    (by first | exact .inl (by decide +kernel) | exact .inr (by decide +kernel)) (by rw [isSubtype_type]; kernel_rfl)
theorem entry_setiter_next : entryFor table "set_iterator.__next__" = some Builtin.«set_iterator.__next__» := entryFor_of_tree (by kernel_rfl)
theorem args_setiter_next_1 (a : Value) : argsOk "set_iterator.__next__" ⟨[a], []⟩ := by unfold argsOk; kernel_rfl
noncomputable def ledOf (w : World) : Bool := !w.params.followText "set-order"
noncomputable def sitObj (a : Addr) (first i : Nat) : Obj := { cls := .type "set_iterator", data := .fields #[rawInt first, rawInt i, .ref a, rawInt 1, rawInt 1] }
noncomputable def nextAt (b : Bool) (w : World) : Nat := if w.params.followText "set-order" then 0 else (if b then 1 else 0) + 1
section
variable {prog : Program} {w : World} {A : Around} {E : Value → Shared → Prop} {s : Shared}
theorem fitB (b led : Bool) : (boolTab b led).fits 1 = true := by cases b <;> cases led <;> decide
theorem newSet_led {Q : Value → Shared → Prop} (h : Q (.ref s.heap.objs.size) { s with heap := s.heap.push (set0 (ledOf w)) }) : wpAny (model prog w) A (newSet (.type "set")) Q E s := by
  unfold newSet setsByText
  refine wpAny_bind (wpAny_bind (wpAny_askSetting (wpAny_pure ?_)))
  dsimp only
  simp only [newObj]
  exact wpAny_bind (wpAny_alloc (wpAny_pure h))
theorem setIter1 {a : Addr} {b : Bool} {Q : Value → Shared → Prop} (ho : s.heap.get? a = some (set1 b (ledOf w) 1)) (h : Q (.ref s.heap.objs.size) { s with heap := s.heap.push (sitObj a 0 0) }) :
    wpAny (model prog w) A (pyIter (.ref a)) Q E s := by
  have hT : s.TypeIs (.ref a) "set" := ⟨_, ho, rfl⟩
  refine wpAny_pyIter_slot hT F.slot_set_iter (wpAny_call_entry F.slot_set_iter hT entry_set_iter ?_ (F.args_set_iter_1 _))
  unfold Builtin.«frozenset.__iter__»
  refine wpAny_bind (wpAny_pure ?_)
  unfold Builtin.Frozenset.sizeOf
  refine wpAny_bind (wpAny_bind (wpAny_setEntries_of ho rfl (fitB _ _) (wpAny_pure ?_)))
  unfold setDrawn setsByText
  refine wpAny_bind (wpAny_bind (wpAny_setState_of ho rfl (fitB _ _) (wpAny_bind (wpAny_bind (wpAny_askSetting (wpAny_pure ?_))))))
  refine wpAny_pure ?_
  dsimp only
  split
  · rename_i hd
    exfalso
    cases hbt : (model prog w).w.params.followText "set-order"
    · rw [hbt] at hd
      cases b <;> exact absurd (show false = true from hd) (by decide)
    · rw [hbt] at hd
      exact absurd (show false = true from hd) (by decide)
  · refine wpAny_bind (wpAny_pure ?_)
    refine wpAny_bind (wpAny_setEpoch_of ho rfl (fitB _ _) ?_)
    unfold newFields
    refine wpAny_bind (wpAny_newObj_type (wpAny_pure ⟨_, rfl, "set_iterator", _, ⟨_, Heap.get?_push_size _ rfl, rfl⟩, slot_setiter_next.lookup, h⟩))
theorem pick1 {α : Type} (f : Nat → Nat) (x : α) : pickOrder f #[x] = #[x] := by
  unfold pickOrder
  show pickOrder.go f 1 0 [x] #[] = #[x]
  unfold pickOrder.go
  simp [Nat.mod_one, pickOrder.go]
theorem setNextB {a : Addr} {b : Bool} {slot given : Nat} {r : Option (Value × Nat)} {Q : Option (Value × Nat) → Shared → Prop} (ho : s.heap.get? a = some (set1 b (ledOf w) 1))
    (hr : r = if (model prog w).w.params.followText "set-order" = true then ((#[(hb b, Value.bool b)] : Array (Int × Value))[given]?).map (fun e => (e.2, slot)) else
      match (#[(hb b, Value.bool b)] : Array (Int × Value))[SetTable.below (boolTab b (ledOf w)).place slot]?, (boolTab b (ledOf w)).place[SetTable.below (boolTab b (ledOf w)).place slot]? with
      | some (_, x), some j => some (x, j + 1)
      | _, _ => none)
    (h : Q r s) : wpAny (model prog w) A (setNext a slot given 1) Q E s := by
  unfold setNext setsByText
  refine wpAny_bind (wpAny_setState_of ho rfl (fitB _ _) (wpAny_bind (wpAny_bind (wpAny_askSetting (wpAny_pure ?_)))))
  dsimp only
  cases hbt : (model prog w).w.params.followText "set-order"
  · rw [hbt] at hr
    simp only [Bool.false_eq_true, if_false] at hr ⊢
    rw [hr] at h
    split
    · rename_i hd
      cases b <;> exact absurd (show false = true from hd) (by decide)
    · refine wpAny_bind (show wpAny _ _ (if (!ledOf w && _) = true then _ else pure ()) _ _ _ from ?_)
      rw [if_neg (by
        unfold ledOf
        rw [show w.params.followText "set-order" = false from hbt]
        simp)]
      exact wpAny_pure (wpAny_pure h)
  · rw [hbt] at hr
    simp only [if_true] at hr ⊢
    rw [hr] at h
    rw [if_neg (by decide)]
    unfold setWalk setsByText
    refine wpAny_bind (wpAny_bind (wpAny_setState_of ho rfl (fitB _ _) (wpAny_bind (wpAny_bind (wpAny_askSetting (wpAny_pure ?_))))))
    dsimp only
    rw [hbt]
    simp only [if_true]
    refine wpAny_bind (wpAny_askSetting (wpAny_pure (wpAny_pure ?_)))
    rw [pick1]
    exact h
theorem setNext0 {I a : Addr} {b : Bool} {Q : Option Value → Shared → Prop} (hI : s.heap.get? I = some (sitObj a 0 0)) (ho : s.heap.get? a = some (set1 b (ledOf w) 1)) 
    (h : ∀ h', Heap.SameBut I s.heap h' → h'.get? I = some (sitObj a (nextAt b w) 1) → Q (some (.bool b)) { s with heap := h' }) : wpAny (model prog w) A (pyNext (.ref I)) Q E s := by
  have hT : s.TypeIs (.ref I) "set_iterator" := ⟨_, hI, rfl⟩
  unfold pyNext
  refine wpAny_bind (wpAny_attempt (wpAny_callSpecial?_slot (name := Str.ofString "__next__") hT slot_setiter_next
    (wpAny_call_entry slot_setiter_next hT entry_setiter_next ?_ (args_setiter_next_1 _))))
  unfold Builtin.«set_iterator.__next__»
  refine wpAny_bind (wpAny_pure ?_)
  refine wpAny_bind (wpAny_fieldsOf hI rfl ?_)
  dsimp only [sitObj, rawInt]
  refine wpAny_bind (wpAny_setEntries_of ho rfl (fitB _ _) ?_)
  rw [if_neg (by simp)]
  refine wpAny_bind (setNextB (r := some (.bool b, nextAt b w)) ho ?_ ?_)
  · unfold nextAt
    show _ = if w.params.followText "set-order" = true then _ else _
    cases w.params.followText "set-order" <;> cases b <;> cases (ledOf w) <;> rfl
  · refine wpAny_bind (wpAny_setField hI rfl (by simp) ?_)
    have h1 : (s.heap.update I (Obj.mapFields (·.setIfInBounds 0 (.int (nextAt b w) 0)))).get? I = some (sitObj a (nextAt b w) 0) := by
      rw [Heap.get?_update_self _ hI (by rfl)]; rfl
    refine wpAny_bind (wpAny_setField (s := { s with heap := s.heap.update I (Obj.mapFields (·.setIfInBounds 0 (.int (nextAt b w) 0))) }) h1 rfl (by simp) ?_)
    refine wpAny_pure ⟨_, rfl, wpAny_pure (h _ ((Heap.SameBut.update ..).trans (Heap.SameBut.update ..)) ?_)⟩
    rw [Heap.get?_update_self _ h1 (by rfl)]; rfl
theorem setNext1 {I a : Addr} {b : Bool} {Q : Option Value → Shared → Prop} (hh : A.handled = none) (hI : s.heap.get? I = some (sitObj a (nextAt b w) 1)) (ho : s.heap.get? a = some (set1 b (ledOf w) 1)) 
    (h : ∀ h', Heap.ExtBut I s.heap h' → Q none { s with heap := h' }) : wpAny (model prog w) A (pyNext (.ref I)) Q E s := by
  have hT : s.TypeIs (.ref I) "set_iterator" := ⟨_, hI, rfl⟩
  unfold pyNext
  refine wpAny_bind (wpAny_attempt (wpAny_callSpecial?_slot (name := Str.ofString "__next__") hT slot_setiter_next
    (wpAny_call_entry slot_setiter_next hT entry_setiter_next ?_ (args_setiter_next_1 _))))
  unfold Builtin.«set_iterator.__next__»
  refine wpAny_bind (wpAny_pure ?_)
  refine wpAny_bind (wpAny_fieldsOf hI rfl ?_)
  dsimp only [sitObj, rawInt]
  refine wpAny_bind (wpAny_setEntries_of ho rfl (fitB _ _) ?_)
  rw [if_neg (by simp)]
  refine wpAny_bind (setNextB (r := none) ho ?_ ?_)
  · unfold nextAt
    show _ = if w.params.followText "set-order" = true then _ else _
    cases w.params.followText "set-order" <;> cases b <;> cases (ledOf w) <;> rfl
  · refine wpAny_bind (wpAny_setField hI rfl (by simp) ?_)
    show wpAny _ _ (newExc (.type "StopIteration") [] >>= _) _ _ _
    refine wpAny_bind ?_
    simp only [newExc, newTuple]
    refine wpAny_bind (wpAny_newObj_type ?_ (by size_fits))
    refine wpAny_bind (m := firstArgMember _ _) (wpAny_of_eq (a := Value.none) (by first | rfl | (simp only [firstArgMember]; rfl)) ?_)
    refine wpAny_newObj_type ?_ (by size_fits)
    simp only [raiseNew]
    refine wpAny_bind (wpAny_handled ?_)
    first | rw [show A.in1.handled = none from hh] | rw [hh]
    refine wpAny_bind (wpAny_pure (wpAny_throw ?_))
    refine wpAny_bind (wpAny_isInstance (T := "StopIteration") (b := true) ⟨_, Heap.get?_push_size _ rfl, rfl⟩ isSubtype_stop ?_)
    exact wpAny_pure (h _ (((Heap.SameBut.extBut (Heap.SameBut.update ..)).push _).push _))
theorem unpack_set1 {a : Addr} {b : Bool} {Q : List Value → Shared → Prop} (hh : A.handled = none) (ho : s.heap.get? a = some (set1 b (ledOf w) 1))
    (h : ∀ h', Heap.ExtBut s.heap.objs.size s.heap h' → Q [.bool b] { s with heap := h' }) : wpAny (model prog w) A (unpackItems (.ref a) 1 none) Q E s := by
  have hT : s.TypeIs (.ref a) "set" := ⟨_, ho, rfl⟩
  have hne : a ≠ s.heap.objs.size := Nat.ne_of_lt (Heap.lt_size ho)
  unfold unpackItems
  refine wpAny_bind ?_
  unfold notIterableAtAll
  refine wpAny_bind (wpAny_specialOf hT F.slot_set_iter.lookup ?_)
  refine wpAny_pure ?_
  simp only [Bool.false_eq_true, if_false]
  refine wpAny_bind (wpAny_holding (setIter1 ho ?_))
  have hI : (s.heap.push (sitObj a 0 0)).get? s.heap.objs.size = some (sitObj a 0 0) := Heap.get?_push_size _ rfl
  have ho₁ : (s.heap.push (sitObj a 0 0)).get? a = some (set1 b (ledOf w) 1) := Heap.get?_push_of_some _ ho
  refine wpAny_bind (wpAny_holding ?_)
  show wpAny _ _ (pyNext (.ref s.heap.objs.size) >>= _) _ E _
  refine wpAny_bind (setNext0 (s := { s with heap := s.heap.push (sitObj a 0 0) }) hI ho₁ fun h₁ hs₁ hI₁ => ?_)
  refine wpAny_bind (wpAny_holding (wpAny_pure ?_))
  refine wpAny_pure ?_
  rw [if_neg (by simp)]
  have ho₂ : h₁.get? a = some (set1 b (ledOf w) 1) := (hs₁.2 a hne).trans ho₁
  refine wpAny_bind (wpAny_holding (setNext1 (s := { s with heap := h₁ }) hh hI₁ ho₂ fun h₂ he₂ => ?_))
  simp only [Option.isSome_none, Bool.false_eq_true, if_false]
  exact wpAny_pure (h h₂ fun c o hc e => he₂ c o hc ((hs₁.2 c hc).trans (Heap.get?_push_of_some _ e)))
end
section
variable {B : Base} {k : Nat} {K : Kinds} {Γ Γ' : G} {V W : Addr → Prop} {h h' : Heap} {env : Env} {x : Str}
theorem comp_coreS (O : B.Ok) {px pos : Pos} {iter elt : Expr} {ifs : List Expr} {sc : Scope} {ds out : List D} {cx b : Bool} {use : Option (Value → Sem Unit)} {A : Around} {s : Shared} {Q : Value → Shared → Prop} {E : Value → Shared → Prop}
    (xi : EvIB B k K Γ iter ds) (sk : ScOk K Γ sc x cx) (c : CompR B k (relK K sc) (cap Γ sc.names) x ifs elt ds out) (hob : ∀ d, d ∈ out → d = D.bool b) (hne : out ≠ []) (hs : ∀ env v, foldedSetIterable iter env v = pure v)
    (rm : Room k A) (eo : EnvOk K env) (i : Inv B A s) (g : EnvR B V s.heap env Γ)
    (hP : ∀ D₀ C s', Inv B A s' → Kp s.heap s'.heap → s.heap.get? D₀ = none → s.heap.get? C = none → C ≠ D₀ → B.n₀ ≤ D₀ → B.n₀ ≤ C → (∃ o es ep, s'.heap.get? C = some o ∧ o.cls = .type "dict" ∧ o.data = .dict es ep ∧ StrKeys es) →
      SetAcc b (ledOf B.w) true s'.heap D₀ → compPost B.M A E use Q (.ref D₀) C (.ok .next) s') :
    wpAny B.M A (comprehension (.SetComp elt [⟨.Name x px, iter, ifs, 0⟩] sc pos) sc env (firstIterPos [⟨.Name x px, iter, ifs, 0⟩] pos) (newSet (.type "set")) false (eval iter env) use) Q E s := by
  have hcl : closureFor sc env = pure (closL (cellAdr env) sc.names []) := closureFor_eq fun p hp hf => by
    refine byAA (sk.frees p hp hf) fun _ h2 h3 => ?_
    refine byE (Option.isSome_iff_exists.mp h2) fun sl e => ?_
    refine byEA (g.vars _ _ e) fun v l _ => ?_
    rcases l with ⟨q, _⟩ | ⟨_, c, q, _⟩
    · rw [eo.kind] at q; rcases h3 with h3 | h3 <;> (rw [q] at h3; cases h3)
    · rw [q]; rfl
  refine wpAny_comprehension_free rfl (hs env) hcl sk.kind sk.locs (xi.run A env V s _ E rm eo i g fun I fp bp St StO s₂ i₂ k₂ it st₂ nf => ?_)
  refine newSet_led (prog := B.prog) (w := B.w) ?_
  have kD : ∀ b o, s₂.heap.get? b = some o → (s₂.heap.push (set0 (ledOf B.w))).get? b = some o := fun b o e => Heap.get?_push_of_some _ e
  refine comp_frame O sk eo (g.kp k₂) (s := { s₂ with heap := s₂.heap.push (set0 (ledOf B.w)) }) (i₂.keep O (tk := s₂.toks) kD) kD (none_size (Nat.le_refl _)) ⟨_, Heap.get?_push_size _ rfl, .inr (.inr (.inr rfl))⟩ (O.size _ i₂.good)
    fun C cells s₄ Wc i₄ k₄ eo₄ wn wD hDC hcD wt wn' wC cs => ?_
  have kk : ∀ b o, s₂.heap.get? b = some o → s₄.heap.get? b = some o := fun b o e => k₄ b o (kD b o e)
  have nz : ∀ b, s₂.heap.get? b = none → s.heap.get? b = none := fun b e => by
    cases q : s.heap.get? b with
    | none => rfl
    | some o => refine byE ((k₂ b o q).ex) fun o' e' => ?_; rw [e] at e'; cases e'
  have st₄ : St (fun b => V b ∨ Wc b) ds s₄.heap := it.frame _ _ _ _ _ st₂ (fun b q => q.imp id fun w => wn b w) fun b o e _ => kk b o e
  have fpw : ∀ b, fp b → ¬ Wc b := fun b f w => by
    refine byEA (it.there _ _ _ b st₂ f) fun o e _ => ?_
    rw [wn b w] at e; cases e
  have bpw : ∀ b, bp b → ¬ Wc b := fun b f w => by
    refine byEA (it.data _ _ _ b st₂ f) fun o e _ => ?_
    rw [wn b w] at e; cases e
  have hD : SetAcc b (ledOf B.w) false s₄.heap s₂.heap.objs.size := k₄ _ _ (Heap.get?_push_size _ rfl)
  have loop := comp_loopS (px := px) (pos := pos) (iter := iter) (sc := sc) (R := compPost B.M A E use Q (.ref s₂.heap.objs.size) C) O rm eo₄ i₄ it cs (cap_none sk) st₄ hD wD hDC hcD fpw bpw c hob fun s' ys i' kp' cs' hl' ls' => by
    refine hP s₂.heap.objs.size C s' i' (fun b o e => ?_) (nz _ (none_size (Nat.le_refl _))) (nz _ (wn _ wC)) (Ne.symm hDC) (O.size _ i₂.good) (cs'.sub _ wC).2 cs'.loc.2 (by
      have : ys = true := by rw [ls']; cases out with | nil => exact absurd rfl hne | cons _ _ => rfl
      rw [← this]; exact hl')
    · have h1 : ∀ b o, s₂.heap.get? b = some o → Kept s'.heap b o ∨ fp b := fun b o e => by
        by_cases f : fp b
        · exact .inr f
        · exact .inl (kp' b o (kk b o e) (fun w => by rw [wn b w] at e; cases e) f)
      have nfp : ¬ fp b := fun f => by rw [nf b f] at e; cases e
      rcases k₂ b o e with q | ⟨cl, sl, q⟩ | ⟨cl, o', q⟩
      · exact (h1 b o q).resolve_right nfp
      · rcases (h1 b _ q).resolve_right nfp with z | ⟨_, sl', z⟩ | ⟨z, _⟩
        · exact .inr (.inl ⟨cl, sl, z⟩)
        · exact .inr (.inl ⟨cl, sl', z⟩)
        · exact absurd (cl.symm.trans z) (by simp)
      · exact .inr (.inr ⟨cl, ((h1 b _ q).resolve_right nfp).ex⟩)
  exact codeAny_compStart_set loop (it.self _ _ _ _ _ st₄ loop)
theorem comp_set (O : B.Ok) {px pos : Pos} {iter elt : Expr} {ifs : List Expr} {sc : Scope} {ds out : List D} {cx b : Bool} {Γc : G}
    (xi : EvIB B k K Γ iter ds) (sk : ScOk K Γ sc x cx) (hΓ : cap Γ sc.names = Γc) (c : CompR B k (relK K sc) Γc x ifs elt ds out) (hob : ∀ d, d ∈ out → d = D.bool b) (hne : out ≠ []) (hs : ∀ env v, foldedSetIterable iter env v = pure v)
    (A : Around) (env : Env) (V : Addr → Prop) (s : Shared) (Q : Value → Shared → Prop) (E : Value → Shared → Prop) (rm : Room k A) (eo : EnvOk K env) (i : Inv B A s) (g : EnvR B V s.heap env Γ)
    (h : ∀ a s', Inv B A s' → Kp s.heap s'.heap → s.heap.get? a = none → B.n₀ ≤ a → SetAcc b (ledOf B.w) true s'.heap a → Q (.ref a) s') :
    wpAny B.M A (eval (.SetComp elt [⟨.Name x px, iter, ifs, 0⟩] sc pos) env) Q E s := by
  subst hΓ
  rw [arm_eval_SetComp]
  show wpAny B.M A (comprehension (.SetComp elt [⟨.Name x px, iter, ifs, 0⟩] sc pos) sc env (firstIterPos [⟨.Name x px, iter, ifs, 0⟩] pos) (newSet (.type "set")) false (eval iter env) none) Q E s
  refine comp_coreS O xi sk c hob hne hs rm eo i g fun D₀ C s' i' kp nD nC hne lo loC hC cD => ?_
  (refine byEE (hC) fun o es hr1 => ?_; (try clear hC); refine byEAAA (hr1) fun ep hoC hcC hdC hkC => ?_; (try clear hr1))
  refine ⟨nsFind es, ⟨o, es, ep, hoC, hdC, hkC, fun _ => rfl⟩, fun h'' hsm => ?_⟩
  exact h D₀ { s' with heap := h'' } (i'.sameBut O (tk := s'.toks) hsm loC fun o' e => by rw [hoC] at e; cases e; rw [hcC]; simp) (kp.but hsm nC) nD lo ((hsm.2 D₀ (Ne.symm hne)).trans cD)
theorem Ex1.unpackSet (O : B.Ok) {y : Str} {py pt p px pos : Pos} {n : Nat} {iter elt : Expr} {ifs : List Expr} {sc : Scope} {ds out : List D} {cx b : Bool} {Γc : G}
    (xi : EvIB B (k + 1) K Γ iter ds) (sk : ScOk K Γ sc x cx) (hΓ : cap Γ sc.names = Γc) (c : CompR B (k + 1) (relK K sc) Γc x ifs elt ds out) (hob : ∀ d, d ∈ out → d = D.bool b) (hne : out ≠ []) (hy : K y = some .local ∨ K y = some .cell) (hs : ∀ env v, foldedSetIterable iter env v = pure v := by intro _ _; rfl)
    (hsw : ∀ env, swapsWithSole [.Tuple [.Name y py] n pt] (.SetComp elt [⟨.Name x px, iter, ifs, 0⟩] sc pos) p.line env = pure false := by intro _; rfl) (hst : ∀ env, swappedStores [.Tuple [.Name y py] n pt] (.SetComp elt [⟨.Name x px, iter, ifs, 0⟩] sc pos) env = pure none := by intro _; rfl) :
    Ex1 B (k + 1) K Γ (.Assign [.Tuple [.Name y py] n pt] (.SetComp elt [⟨.Name x px, iter, ifs, 0⟩] sc pos) p) .next (put Γ y (.sh (.bool b))) := .mk fun A env V₀ W s Q E rm eo i st h => by
  refine wpAny_Assign_stores (comp_set O xi sk hΓ c hob hne hs A env _ s _ E rm eo i st.r fun a s₁ i₁ k₁ n₁ lo ho => ?_) (hsw env) (hst env)
  rw [assignEach_cons rfl]
  show wpAny _ _ (PySem.assign (.Tuple [.Name y py] n pt) env (.ref a)) _ E s₁
  rw [arm_assign_Tuple]
  refine wpAny_bind (wpAny_standAt ?_)
  unfold unpack
  refine wpAny_bind (wpAny_holding (unpack_set1 (prog := B.prog) (w := B.w) (rm.handled (Nat.succ_pos _)) ho fun h' hx => ?_))
  have kk : Kp s₁.heap h' := .of (keep_ext hx (Nat.le_refl _))
  have st₁ := (st.kp k₁).kp kk
  refine (AsgL.cons (Γ₁ := put Γ y (.sh (.bool b))) (Asg.name O hy) AsgL.nil (by rfl)).run A env V₀ W { s₁ with heap := h' } [.bool b] _ E rm eo (i₁.keep O (tk := s₁.toks) (keep_ext hx (Nat.le_refl _))) st₁ (by simp only [Lays, Lay]; exact ⟨_, [], rfl, rfl, rfl⟩) fun s₂ i₂ d₂ e₂ st₂ => ?_
  exact h .next s₂ W i₂ ((k₁.trans kk).dom.trans d₂) ((Ext.of_kp (k₁.trans kk)).trans e₂ (k₁.trans kk).dom) st₂ rfl
end
end Jv
namespace Jv
open PySem PySem.W PySem.Calls PyProof.Rows
section
variable {B : Base} {k : Nat} {K : Kinds} {Γ Γ' : G} {V V₀ W : Addr → Prop} {h h' : Heap} {env : Env} {x : Str}
theorem Ex1.try_ {body : List Stmt} {h₀ : ExceptHandler} {hs : List ExceptHandler} {p : Pos} {o : Out} (y : Ex B k K Γ body o Γ') : Ex1 B k K Γ (.Try body (h₀ :: hs) [] [] p) o Γ' := .mk fun A env V₀ W s Q E rm eo i st h => by
  refine wpAny_Try_except (prog := B.prog) (w := B.w) (y.run A env V₀ W s _ _ rm eo i st fun fl s' W' i' d' e' st' ou => ?_)
  have hh := h fl s' W' i' d' e' st' ou
  cases o with
  | next => obtain rfl : fl = .next := ou; exact wpAny_execs_nil hh
  | brk => obtain rfl : fl = .brk := ou; exact hh
  | ret d => (refine byEA (ou) fun v hq1 _ => ?_; (try clear ou); subst hq1); exact hh
end
end Jv
namespace Jv
open PySem PySem.W PySem.Calls PyProof.Rows
section
variable {B : Base} {k : Nat} {K : Kinds} {Γ Γ' : G}
theorem EvB.own {x : Str} {p : Pos} {a? : Option Addr} {d : D} (hx : Γ.lookup x = some (.own a? d)) (h1 : (x == ("__debug__" : Str)) = false := by decide) (h2 : (x == ("__classdict__" : Str)) = false := by decide) : EvB B k K Γ (.Name x p) d := EvB.name (sl := .own a? d) hx h1 h2
theorem EvB.sh {x : Str} {p : Pos} {d : D} (hx : Γ.lookup x = some (.sh d)) (h1 : (x == ("__debug__" : Str)) = false := by decide) (h2 : (x == ("__classdict__" : Str)) = false := by decide) : EvB B k K Γ (.Name x p) d := (Ev.name hx h1 h2).b
theorem Binds.star {name a p : Str} {params : Arguments} {body : List Stmt} {scope : Scope} {d : D} {ds : List D} (O : B.Ok)
    (hb : ∀ pm cd doc v vs, bindArgs (docDef name params body scope pm cd doc) ⟨v :: vs, []⟩ = (fun t => [(a, v), (p, t)]) <$> newTuple vs) (hz : ds.length ≤ sizeLine := by first | decide | (simp only [List.length]; decide) | simp) :
    Binds B name params body scope (d :: ds) [a, p] [d, .tup ds] := fun pm cd doc A V s vs Q E i dm ls h => by
  simp only [Lays] at ls
  (refine byEEA (ls) fun v r hq1 hr2 => ?_; (try clear ls); subst hq1; refine byA (hr2) fun lv lr => ?_; (try clear hr2))
  rw [hb, map_eq_pure_bind]
  refine wpAny_bind (wpAny_newTuple ?_ (by rw [lr.length]; exact hz))
  have kp : ∀ b o, s.heap.get? b = some o → (s.heap.push { cls := .type "tuple", data := .seq r.toArray }).get? b = some o := fun b o e => Heap.get?_push_of_some _ e
  refine wpAny_pure (h [v, .ref s.heap.objs.size] { s with heap := s.heap.push { cls := .type "tuple", data := .seq r.toArray } } (i.keep O (tk := s.toks) kp) (.of kp) ?_)
  simp only [Lays, Lay]
  refine ⟨_, _, rfl, lv.kp (.of kp), _, _, rfl, ⟨_, rfl, fun q => ?_, r.toArray, ⟨_, Heap.get?_push_size _ rfl⟩, ?_⟩, rfl⟩
  · refine byEA (dm _ q) fun o e _ => ?_
    exact absurd (Heap.lt_size e) (Nat.lt_irrefl _)
  · exact lr.kp (.of kp)
end
end Jv
namespace Jv
open PySem PySem.W PySem.Calls PyProof.Rows
section
variable {B : Base} {k : Nat} {K : Kinds} {Γ Γ' : G}
theorem BinR.mul_str {a : Str} {n : Int} (hok : MulOk a n) : BinR B k .Mult (.str a) (.int n) (.str (Txt.mul a n)) := fun A V s v₁ v₂ Q E r i dm x y h => by
  (refine byE (x.asStr) fun t hq1 => ?_; subst hq1); (refine byE (y.asInt) fun u hq2 => ?_; subst hq2)
  exact PySem.SB.mul hok (fun t' tk => h _ _ (i.tok _) (.refl _) ⟨_, rfl⟩)
theorem Ev.ite_t {t a b : Expr} {p : Pos} {d : D} (x : EvT B k K Γ t true) (y : Ev B k K Γ a d) : Ev B k K Γ (.IfExp t a b p) d := Ev.ite x (fun _ => y) (fun h => nomatch h)
theorem Ev.and_nil {e : Expr} {p : Pos} {d : D} (x : Ev B k K Γ e d) : Ev B k K Γ (.BoolOp .And [e] p) d := .mk fun A env V s Q E rm o i g h => BoolOp_one (x.run A env V s Q E rm o i g h)
theorem Ev.and_cons {e₁ e₂ : Expr} {es : List Expr} {p : Pos} {a b : Bool} (x : Ev B k K Γ e₁ (.bool a)) (y : a = true → Ev B k K Γ (.BoolOp .And (e₂ :: es) p) (.bool b)) : Ev B k K Γ (.BoolOp .And (e₁ :: e₂ :: es) p) (.bool (a && b)) := .mk fun A env V s Q E rm o i g h => by
  refine BoolOp_and (x.run A env V s _ E rm o i g fun v s₁ i₁ k₁ l₁ => ?_)
  obtain rfl : v = .bool a := l₁
  refine wpAny_truthy_bool ?_
  cases a with
  | false => exact h _ s₁ i₁ k₁ rfl
  | true => exact (y rfl).run A env V s₁ Q E rm o i₁ (g.kp k₁) fun v s₂ i₂ k₂ l₂ => h v s₂ i₂ (k₁.trans k₂) l₂
theorem SetR.listI (O : B.Ok) {l : List D} {i : Int} {d : D} (h0 : 0 ≤ i) (hn : i.toNat < l.length) (hz : l.length ≤ sizeLine) : SetR B k (.list l) (.int i) d (.list (l.set i.toNat d)) := by
  have e : i = ((i.toNat : Nat) : Int) := by omega
  have := SetR.list (B := B) (k := k) O (l := l) (n := i.toNat) (d := d) hn hz
  rw [← e] at this
  exact this
theorem MutR.insertI (O : B.Ok) {l : List D} {i : Int} {d : D} (h0 : 0 ≤ i) (hn : i.toNat ≤ l.length) (hz : l.length ≤ sizeLine) : MutR B k (.builtin "list.insert") (.list l) [.int i, d] (.list (l.take i.toNat ++ [d] ++ l.drop i.toNat)) .none := by
  have e : i = ((i.toNat : Nat) : Int) := by omega
  have := MutR.insert (B := B) (k := k) O (l := l) (n := i.toNat) (d := d) hn hz
  rw [← e] at this
  exact this
theorem Ev.negc {i : Int} {c : Nat} {p p' : Pos} : Ev B k K Γ (.UnaryOp .USub (.Constant (.int i) c p) p') (.int (-i)) := .mk fun A env V s Q E rm eo I g h =>
  wpAny_UnaryOp ((Ev.cint : Ev B k K Γ (.Constant (.int i) c p) (.int i)).run A env V s _ E rm eo I g fun v₂ s₂ i₂ k₂ l₂ => by
    simp only [Lay] at l₂
    (refine byE (l₂) fun t hq6 => ?_; (try clear l₂); subst hq6)
    exact PyProof.Rows.neg_int (h _ _ (i₂.tok _) k₂ ⟨_, rfl⟩))
theorem SubR.last {l : List D} {d : D} : SubR B k (.list (l ++ [d])) (.int (-1)) d :=
  SubR.listNeg (by decide) (by simp only [List.length_append, List.length_cons, List.length_nil]; omega) (by decide) (by
    rw [show ((-1 : Int) + ((l ++ [d]).length : Nat)).toNat = l.length by simp only [List.length_append, List.length_cons, List.length_nil]; omega]
    simp)
end
end Jv
namespace Jv
open PySem PySem.W PySem.Calls PyProof.Rows
section
variable {B : Base} {k : Nat} {K : Kinds} {Γ Γ' : G}
noncomputable def scOkB (K : Kinds) (Γ : G) (sc : Scope) : Bool :=
  sc.names.all fun p => (p.2 != .local || sc.names.lookup p.1 == some .local) && (p.2 != .free || (sc.names.lookup p.1 == some .free && (Γ.lookup p.1).isSome && (K p.1 == some .cell || K p.1 == some .free)))
theorem ScOk.of {sc : Scope} {x : Str} {cx : Bool} (h : scOkB K Γ sc = true) (kind : sc.kind = .function) (tgt : sc.names.lookup x = some (if cx then .cell else .local))
    (cells : ∀ n acc, cellsFrom n sc.names acc = if cx then (x, n) :: acc else acc) (push : ∀ h, pushCells h sc.names = if cx then h.push { cls := .type "cell", data := .cell none } else h) : ScOk K Γ sc x cx where
  kind := kind
  tgt := tgt
  cells := cells
  push := push
  locs p m e := by
    have := List.all_eq_true.mp h p m
    rw [e] at this
    simpa using this
  frees p m e := by
    have := List.all_eq_true.mp h p m
    rw [e] at this
    simp only [bne_self_eq_false, Bool.false_or, Bool.and_eq_true, Bool.or_eq_true, beq_iff_eq] at this
    exact ⟨this.2.1.1, this.2.1.2, this.2.2⟩
theorem CompR.of {α : Type} {x : Str} {ifs : List Expr} {elt : Expr} (inj : α → D) (p : α → Bool) (f : α → D) : ∀ (l : List α) (h : ∀ a, a ∈ l → EvIfs B k K (put Γ x (.sh (inj a))) ifs (p a)) (h2 : ∀ a, a ∈ l → p a = true → Ev B k K (put Γ x (.sh (inj a))) elt (f a)),
    CompR B k K Γ x ifs elt (l.map inj) ((l.filter p).map f)
  | [], _, _ => .nil
  | a :: l, h, h2 => by
    have r := CompR.of inj p f l (fun b m => h b (.tail _ m)) (fun b m => h2 b (.tail _ m))
    cases e : p a
    · rw [List.filter_cons_of_neg (by simp [e])]
      exact .skip (e ▸ h a (.head _)) r
    · rw [List.filter_cons_of_pos e]
      exact .take (e ▸ h a (.head _)) (h2 a (.head _) e) r
theorem CompR.map {α : Type} {x : Str} {elt : Expr} (inj : α → D) (f : α → D) (l : List α) (h2 : ∀ a, a ∈ l → Ev B k K (put Γ x (.sh (inj a))) elt (f a)) :
    CompR B k K Γ x [] elt (l.map inj) (l.map f) := by
  have := CompR.of (B := B) (k := k) (K := K) (Γ := Γ) (x := x) (ifs := []) (elt := elt) inj (fun _ => true) f l (fun _ _ => .nil) (fun a m _ => h2 a m)
  rw [List.filter_eq_self.mpr (fun _ _ => rfl)] at this
  exact this
theorem swapsC {elt : Expr} {gens : List Comprehension} {sc : Scope} {pos py : Pos} {y : Str} {line : Nat} (hk : K y = some .local) (hl : (py.line == pos.line) = true) (hn : (sc.names.any fun (n, k) => n == y && (k == .local || k == .cell)) = false) (env : Env) (eo : EnvOk K env) :
    swapsWith (.ListComp elt gens sc pos) (some (.Name y py)) line env = pure true := by
  have h1 : (env.blockKind == .function) = true := by
    have := eo.fn
    simp [Env.blockKind, this]
  have h2 : (env.kindOf y == some .local) = true := by rw [eo.kind, hk]; rfl
  show (pure (env.blockKind == .function && env.kindOf y == some .local && py.line == pos.line && !(sc.names.any fun (n, k) => n == y && (k == .local || k == .cell))) : PySem.Sem Bool) = pure true
  rw [h1, h2, hl, hn]
  rfl
theorem EvIB.tuple (O : B.Ok) {e : Expr} {ds : List D} (x : Ev B (k + 1) K Γ e (.tup ds)) : EvIB B (k + 1) K Γ e ds := (EvI.tuple O x).b
theorem weakApp {Γ₂ X : G} {y : Str} {s : Slot} (h : Γ₂.lookup y = some s) : (Γ₂ ++ X).lookup y = some s := by
  rw [List.lookup_append, h]; rfl
theorem Loop.step' {t : Expr} {body : List Stmt} {X X₁ X₂ X₃ : G} {d : D} {ds : List D} {o : Out} (l : Loop B k K t body X₂ ds o X₃) (a : Asg B k K X t d X₁) (b : Ex B k K X₁ body .next X₂) : Loop B k K t body X (d :: ds) o X₃ := .step a b l
theorem Loop.all {t : Expr} {body : List Stmt} : ∀ {ds : List D}, (∀ d, d ∈ ds → ∃ X₁, Asg B k K Γ t d X₁ ∧ Ex B k K X₁ body .next Γ) → Loop B k K t body Γ ds .next Γ
  | [], _ => .done
  | d :: ds, h => by
    refine byEA (h d (.head _)) fun X a b => ?_
    exact .step a b (Loop.all fun d m => h d (.tail _ m))
end
theorem ltS_irrefl (x : Str) : ltS x x = false := by simp [ltS, List.lt_irrefl]
theorem Str.cps_inj {x y : Str} (h : x.cps.toList = y.cps.toList) : x = y := by
  cases x; cases y; simpa using h
theorem ltS_tri {x y : Str} (h : x ≠ y) : ltS x y = true ∨ ltS y x = true := by
  by_cases a : x.cps.toList < y.cps.toList
  · exact .inl (by simp [ltS, a])
  · by_cases b : y.cps.toList < x.cps.toList
    · exact .inr (by simp [ltS, b])
    · exact absurd (Str.cps_inj (List.le_antisymm (List.not_lt.mp b) (List.not_lt.mp a))) h
theorem ltS_trans {x y z : Str} (h : ltS x y = true) (h2 : ltS y z = true) : ltS x z = true := by
  simp only [ltS, decide_eq_true_eq] at *
  exact List.lt_trans h h2
theorem ltS_asymm {x y : Str} (h : ltS x y = true) : ltS y x = false := by
  cases e : ltS y x
  · rfl
  · have := ltS_trans h e; rw [ltS_irrefl] at this; cases this
theorem ltL_irrefl : ∀ l, ltL l l = false
  | [] => rfl
  | x :: l => by simp [ltL, ltL_irrefl l]
theorem ltL_cotrans : ∀ {a c : List Str} (b : List Str), ltL a c = true → ltL a b = true ∨ ltL b c = true
  | [], [], b, h => by cases h
  | _ :: _, [], b, h => by cases h
  | [], z :: r, [], h => .inr h
  | [], z :: r, y :: m, h => .inl rfl
  | x :: l, z :: r, [], h => .inr rfl
  | x :: l, z :: r, y :: m, h => by
    by_cases xz : x = z
    · subst xz
      simp only [ltL, if_true] at h
      by_cases yx : y = x
      · subst yx
        simpa [ltL] using ltL_cotrans m h
      · have yx' : ¬ x = y := fun e => yx e.symm
        simpa [ltL, yx, yx'] using ltS_tri yx'
    · have h' : ltS x z = true := by simpa [ltL, xz] using h
      by_cases yx : y = x
      · subst yx
        exact .inr (by simpa [ltL, xz] using h')
      · have yx' : ¬ x = y := fun e => yx e.symm
        by_cases yz : y = z
        · subst yz
          exact .inl (by simpa [ltL, xz] using h')
        · rcases ltS_tri yx' with a | a
          · exact .inl (by simpa [ltL, yx'] using a)
          · exact .inr (by simpa [ltL, yz] using ltS_trans a h')
theorem ltL_asymm : ∀ {a b : List Str}, ltL a b = true → ltL b a = false
  | [], [], h => by cases h
  | [], _ :: _, h => rfl
  | _ :: _, [], h => by cases h
  | x :: l, y :: r, h => by
    by_cases e : x = y
    · subst e
      simp only [ltL, if_true] at *
      exact ltL_asymm h
    · have e' : ¬ y = x := fun q => e q.symm
      simp only [ltL, e, e', if_false] at *
      exact ltS_asymm h
theorem bestI_best (bt : Nat → Nat → Bool) (ir : ∀ i, bt i i = false) (as : ∀ i j, bt i j = true → bt j i = false) (co : ∀ i j k, bt i k = true → bt i j = true ∨ bt j k = true) : ∀ n i, i ≤ n → bt i (bestI bt n) = false
  | 0, i, h => by
    obtain rfl : i = 0 := by omega
    exact ir 0
  | n + 1, i, h => by
    unfold bestI
    have IH := bestI_best bt ir as co n
    split
    · rename_i hb
      by_cases e : i = n + 1
      · subst e; exact ir _
      · cases hc : bt i (n + 1)
        · rfl
        · rcases co i (bestI bt n) (n + 1) hc with q | q
          · rw [IH i (by omega)] at q; cases q
          · rw [as _ _ hb] at q; cases q
    · rename_i hb
      by_cases e : i = n + 1
      · subst e; simpa using hb
      · exact IH i (by omega)
theorem minL_le {l : List (List Str)} {x : List Str} (h : x ∈ l) : ltL x (minL l) = false := by
  obtain ⟨i, hi, rfl⟩ := List.mem_iff_getElem.mp h
  have := bestI_best (fun i j => ltL (l.getD i []) (l.getD j [])) (fun _ => ltL_irrefl _) (fun _ _ => ltL_asymm) (fun i j k h => ltL_cotrans _ h) (l.length - 1) i (by omega)
  simpa [minL, List.getD_eq_getElem?_getD, hi] using this
theorem maxL_ge {l : List (List Str)} {x : List Str} (h : x ∈ l) : ltL (maxL l) x = false := by
  obtain ⟨i, hi, rfl⟩ := List.mem_iff_getElem.mp h
  have := bestI_best (fun i j => ltL (l.getD j []) (l.getD i [])) (fun _ => ltL_irrefl _) (fun _ _ => ltL_asymm) (fun i j k h => (ltL_cotrans (l.getD j []) h).symm) (l.length - 1) i (by omega)
  simpa [maxL, List.getD_eq_getElem?_getD, hi] using this
theorem minL_mem {l : List (List Str)} (h : l ≠ []) : minL l ∈ l := by
  have h0 := List.length_pos_iff.mpr h
  have := bestI_le (fun i j => ltL (l.getD i []) (l.getD j [])) (l.length - 1)
  unfold minL
  rw [List.getD_eq_getElem?_getD, List.getElem?_eq_getElem (by omega)]
  exact List.getElem_mem _
theorem maxL_mem {l : List (List Str)} (h : l ≠ []) : maxL l ∈ l := by
  have h0 := List.length_pos_iff.mpr h
  have := bestI_le (fun i j => ltL (l.getD j []) (l.getD i [])) (l.length - 1)
  unfold maxL
  rw [List.getD_eq_getElem?_getD, List.getElem?_eq_getElem (by omega)]
  exact List.getElem_mem _
theorem min_le_max {l : List (List Str)} (h : l ≠ []) : ltL (maxL l) (minL l) = false := maxL_ge (minL_mem h)
noncomputable def lcp : List Str → List Str → List Str
  | a :: l, b :: r => if a = b then a :: lcp l r else []
  | _, _ => []
theorem lcp_pre : ∀ {m M x : List Str}, ltL x m = false → ltL M x = false → lcp m M <+: x
  | [], _, x, _, _ => by simp [lcp]
  | _ :: _, [], x, _, _ => by simp [lcp]
  | a :: m, b :: M, x, h1, h2 => by
    unfold lcp
    split
    · rename_i e; subst e
      cases x with
      | nil => cases h1
      | cons y x =>
        by_cases e : y = a
        · subst e
          simp only [ltL, if_true] at h1 h2
          exact List.cons_prefix_cons.mpr ⟨rfl, lcp_pre h1 h2⟩
        · have e' : ¬ a = y := fun q => e q.symm
          simp only [ltL, e, e', if_false] at h1 h2
          rcases ltS_tri e with q | q
          · rw [h1] at q; cases q
          · rw [h2] at q; cases q
    · exact List.nil_prefix
theorem lcp_of_pre : ∀ {p m M : List Str}, p <+: m → p <+: M → p <+: lcp m M
  | [], _, _, _, _ => List.nil_prefix
  | a :: p, [], _, h, _ => by simp at h
  | a :: p, _ :: _, [], _, h => by simp at h
  | a :: p, b :: m, c :: M, h, h2 => by
    (refine byA (List.cons_prefix_cons.mp h) fun hq1 h' => ?_; subst hq1)
    (refine byA (List.cons_prefix_cons.mp h2) fun hq2 h2' => ?_; subst hq2)
    simp only [lcp, if_true]
    exact List.cons_prefix_cons.mpr ⟨rfl, lcp_of_pre h' h2'⟩
theorem lcp_app : ∀ (p l r : List Str), lcp (p ++ l) (p ++ r) = p ++ lcp l r
  | [], _, _ => rfl
  | a :: p, l, r => by simp [lcp, lcp_app p l r]
theorem lcp_nil (r : List Str) : lcp [] r = [] := by unfold lcp; rfl
theorem lcp_ne {a b : Str} (l r : List Str) (h : ¬ a = b) : lcp (a :: l) (b :: r) = [] := by unfold lcp; rw [if_neg h]
theorem cut_take {α : Type} (l : List α) {n : Nat} (h : n ≤ l.length) : cut l none (some (n : Int)) = l.take n := cut_takes l n
noncomputable def commonL (l : List (List Str)) : List Str := lcp (minL l) (maxL l)
theorem commonL_pre {l : List (List Str)} {x : List Str} (h : x ∈ l) : commonL l <+: x := lcp_pre (minL_le h) (maxL_ge h)
theorem commonL_of_pre {l : List (List Str)} {p : List Str} (h0 : l ≠ []) (h : ∀ x, x ∈ l → p <+: x) : p <+: commonL l := lcp_of_pre (h _ (minL_mem h0)) (h _ (maxL_mem h0))
theorem lt_app : ∀ (p : List Str) (c : Str) (r : List Str), ltL p (p ++ c :: r) = true
  | [], c, r => rfl
  | x :: p, c, r => by simp [ltL, lt_app p c r]
end Jv
namespace Jv
open PySem PySem.W PySem.Calls PyProof.Rows
section
variable {B : Base} {k : Nat} {K : Kinds} {Γ Γ' : G}
noncomputable def signs (x : Str) : List Str := x.cps.toList.map fun c => ⟨#[c]⟩
theorem Iter.str (O : B.Ok) {A : Around} (hh : A.handled = none) {I : Addr} {x : Str} {t : Tok} (lo : B.n₀ ≤ I) :
    Iter B A I (fun b => b = I) (fun b => False) false
      (fun V ds h => ∃ i, h.IsStrIter I "str_ascii_iterator" x t i ∧ ds = sl ((signs x).drop i))
      (fun V ds v h => ∃ i, h.IsStrIter I "str_ascii_iterator" x t i ∧ ds = sl ((signs x).drop i)) where
  frame := fun V V' ds h h' hx hv hk => by
    (refine byEA (hx) fun i h1 h4 => ?_; (try clear hx))
    (refine byEAA (h1) fun oi a1 a2 a3 => ?_; (try clear h1))
    exact ⟨i, ⟨oi, hk _ _ a1 (.inl rfl), a2, a3⟩, h4⟩
  item := fun V d ds s Q E inv _ hx hQ => by
    (refine byEA (hx) fun i h1 h4 => ?_; (try clear hx))
    have hl : i < x.cps.toList.length := by
      have := congrArg List.length h4
      simp [sl, signs] at this
      simp; omega
    have e4 : (signs x).drop i = ⟨#[x.cps.toList[i]]⟩ :: (signs x).drop (i + 1) := by
      unfold signs
      rw [List.drop_eq_getElem_cons (by simpa using hl)]
      simp
    rw [e4] at h4
    refine byA (List.cons.inj (show d :: ds = .str ⟨#[x.cps.toList[i]]⟩ :: sl ((signs x).drop (i + 1)) from h4)) fun ed eds => ?_
    subst ed; subst eds
    refine wpAny_pyNext_ascii_item (prog := B.prog) (w := B.w) h1 (c := x.cps.toList[i]) (by simp at hl; simp [hl]) fun h' hit hs => ?_
    refine byEAA (id h1) fun oi a1 a2 a3 => ?_
    exact hQ _ { s with heap := h', toks := s.toks + 1 } (inv.sameBut O (tk := s.toks + 1) hs lo fun o e => by rw [a1] at e; cases e; rw [a2]; simp) ⟨i + 1, hit, rfl⟩ (fun b o e nb => (hs.2 b nb).trans e) ⟨_, rfl⟩
  done := fun V s Q E inv hx hQ => by
    (refine byEA (hx) fun i h1 h4 => ?_; (try clear hx))
    have hl : x.cps.toList.length ≤ i := by
      have := congrArg List.length h4
      simp [sl, signs] at this
      simp; omega
    refine byEAA (id h1) fun oi a1 a2 a3 => ?_
    refine wpAny_pyNext_ascii_end (prog := B.prog) (w := B.w) hh h1 (by simp at hl; simp [hl]) fun h' hs => hQ { s with heap := h' } ?_ fun b o e nb => hs b o nb e
    refine ⟨O.step _ _ inv.good fun b o hb e => hs b o (by rintro rfl; exact absurd lo (Nat.not_le.mpr hb)) e, inv.gens, inv.os, ?_⟩
    refine byEA (inv.fr) fun l e hl => ?_
    refine ⟨l, e, fun env' he => ?_⟩
    (refine byA (hl env' he) fun hk hr1 => ?_; refine byEE (hr1) fun L o hr2 => ?_; (try clear hr1); refine byEEAAA (hr2) fun es ep f1 f2 f3 hr3 => ?_; (try clear hr2); refine byA (hr3) fun f4 f5 => ?_; (try clear hr3))
    exact ⟨hk, L, o, es, ep, f1, f2, hs L o (by rintro rfl; rw [a1] at f3; cases f3; rw [a2] at f4; exact absurd f4 (by simp)) f3, f4, f5⟩
  self := fun V ds s Q E hx hQ => by (refine byEA (hx) fun i h1 _ => ?_; (try clear hx)); exact wpAny_pyIter_striter_ascii (prog := B.prog) (w := B.w) h1 hQ
  own := fun V ds ts n p v s Q E inv hx hQ => by
    (refine byEA (hx) fun i h1 h2 => ?_; (try clear hx))
    refine byEAA (id h1) fun oi a1 a2 a3 => ?_
    exact own_plain a1 a2 (by decide) (hQ s inv ⟨i, h1, h2⟩ fun _ _ e _ => e)
  plain := fun _ _ _ _ _ x => x
  there := fun V ds h b hx e => by (refine byEA (hx) fun i hp4 _ => ?_; (try clear hx); obtain ⟨oi, a1, a2, _⟩ := hp4); exact ⟨oi, e ▸ a1, priv_of a2 (by decide)⟩
  thereO := fun V ds v h b hx e => by (refine byEA (hx) fun i hp5 _ => ?_; (try clear hx); obtain ⟨oi, a1, a2, _⟩ := hp5); exact ⟨oi, e ▸ a1, priv_of a2 (by decide)⟩
  data := fun V ds h b _ e => e.elim
theorem EvI.str (O : B.Ok) {e : Expr} {y : Str} (x : Ev B (k + 1) K Γ e (.str y)) (ha : y.cps.all (· < 128) = true) : EvI B (k + 1) K Γ e false (sl (signs y)) := .mk fun A env V s Q E rm o i g h =>
  x.run A env V s _ E rm o i g fun v s₁ i₁ k₁ l₁ => by
    simp only [Lay] at l₁
    (refine byE (l₁) fun t hq6 => ?_; (try clear l₁); subst hq6)
    have kp : ∀ b o, s₁.heap.get? b = some o → (s₁.heap.push { cls := .type "str_ascii_iterator", data := .fields #[.str y t, .int 0 0] }).get? b = some o := fun b o e => Heap.get?_push_of_some _ e
    refine wpAny_pyIter_ascii (prog := B.prog) (w := B.w) ha (h _ _ _ _ _ { s₁ with heap := s₁.heap.push { cls := .type "str_ascii_iterator", data := .fields #[.str y t, .int 0 0] } } (i₁.keep O (tk := s₁.toks) kp) (k₁.trans (.of kp)) (Iter.str O (rm.handled (Nat.succ_pos _)) (x := y) (t := t) (O.size _ i₁.good)) ⟨0, ⟨_, Heap.get?_push_size _ rfl, rfl, rfl⟩, rfl⟩ ?_ fun _ q => q)
    rintro b rfl
    cases e : s.heap.get? s₁.heap.objs.size with
    | none => rfl
    | some o => refine byE ((k₁ _ _ e).ex) fun o' e' => ?_; exact absurd (Heap.lt_size e') (Nat.lt_irrefl _)
end
end Jv
namespace Jv
open PySem PySem.W PySem.Calls PyProof.Rows
structure XAt (n₀ : Nat) (h₀ h : Heap) (V : Addr → Prop) (tb cx : Bool) (e : Addr) : Prop where
  new : h₀.get? e = none
  lo : n₀ ≤ e
  off : ¬ V e
  there : ∃ oe vs, h.get? e = some oe ∧ oe.cls = .type "IndexError" ∧ oe.data = .fields vs ∧ 2 < vs.size ∧ (cx = false → vs[2]? = some .none) ∧
    ((tb = false ∧ vs[1]? = some .none) ∨ ∃ T oT ts, vs[1]? = some (.ref T) ∧ h₀.get? T = none ∧ n₀ ≤ T ∧ ¬ V T ∧ T ≠ e ∧ h.get? T = some oT ∧ oT.cls = .type "traceback" ∧ oT.data = .fields ts ∧ 3 < ts.size)
noncomputable def XCh (n₀ : Nat) (h₀ h h' : Heap) : Prop := ∀ b o, h.get? b = some o → h'.get? b = some o ∨ (o.cls = .type "frame" ∧ n₀ ≤ b ∧ ∃ sl, h'.get? b = some { o with slots := sl }) ∨ (h₀.get? b = none ∧ n₀ ≤ b ∧ IsPriv o ∧ o.cls ≠ .none ∧ ∃ o', h'.get? b = some o' ∧ o'.cls = o.cls)
theorem XCh.refl {n₀ : Nat} {h₀ h : Heap} : XCh n₀ h₀ h h := fun _ _ e => .inl e
theorem XCh.trans {n₀ : Nat} {h₀ h₁ h₂ h₃ : Heap} (x : XCh n₀ h₀ h₁ h₂) (y : XCh n₀ h₀ h₂ h₃) : XCh n₀ h₀ h₁ h₃ := fun b o e => by
  rcases x b o e with e1 | ⟨c, l, sl, e1⟩ | ⟨n, l, p, cn, o', e1, c⟩
  · exact y b o e1
  · rcases y b _ e1 with e2 | ⟨_, _, sl', e2⟩ | ⟨n, _, p, _⟩
    · exact .inr (.inl ⟨c, l, sl, e2⟩)
    · exact .inr (.inl ⟨c, l, sl', e2⟩)
    · exact absurd c p.2.1
  · rcases y b _ e1 with e2 | ⟨c2, _⟩ | ⟨_, _, _, _, o'', e2, c2⟩
    · exact .inr (.inr ⟨n, l, p, cn, o', e2, c⟩)
    · exact absurd (c ▸ c2) p.2.1
    · exact .inr (.inr ⟨n, l, p, cn, o'', e2, c2.trans c⟩)
theorem XCh.dom {n₀ : Nat} {h₀ h h' : Heap} (x : XCh n₀ h₀ h h') : Dom h h' := fun b o e => by
  rcases x b o e with e1 | ⟨_, _, sl, e1⟩ | ⟨_, _, _, _, o', e1, _⟩
  · exact ⟨_, e1⟩
  · exact ⟨_, e1⟩
  · exact ⟨_, e1⟩
theorem XCh.kq {n₀ : Nat} {h₀ h h' : Heap} (x : XCh n₀ h₀ h h') : Kq h h' := fun b o e => by
  rcases x b o e with e1 | ⟨c, _, sl, e1⟩ | ⟨_, _, p, _⟩
  · exact .inl e1
  · exact .inr (.inl ⟨c, sl, e1⟩)
  · exact .inr (.inr p)
theorem XCh.off {n₀ : Nat} {h₀ h h' : Heap} {W : Addr → Prop} (x : XCh n₀ h₀ h h') (k : KpOff W h₀ h) : KpOff W h₀ h' := fun b o nb e => by
  rcases k b o nb e with k | ⟨c, sl, k⟩ | ⟨c, o', k⟩
  · rcases x b o k with e1 | ⟨c, _, sl, e1⟩ | ⟨n, _⟩
    · exact .inl e1
    · exact .inr (.inl ⟨c, sl, e1⟩)
    · rw [e] at n; cases n
  · rcases x b _ k with e1 | ⟨_, _, sl', e1⟩ | ⟨n, _⟩
    · exact .inr (.inl ⟨c, sl, e1⟩)
    · exact .inr (.inl ⟨c, sl', e1⟩)
    · rw [e] at n; cases n
  · exact .inr (.inr ⟨c, x.dom b o' k⟩)
theorem XCh.ext {n₀ : Nat} {h₀ h h' : Heap} {W W' : Addr → Prop} (x : XCh n₀ h₀ h h') (k : Ext W h₀ W' h) : Ext W h₀ W' h' := ⟨k.new, x.off k.kp⟩
theorem XCh.older {n₀ : Nat} {h₀ h₁ h h' : Heap} (x : XCh n₀ h₁ h h') (d : Dom h₀ h₁) : XCh n₀ h₀ h h' := fun b o e => by
  rcases x b o e with e1 | e1 | ⟨n, r⟩
  · exact .inl e1
  · exact .inr (.inl e1)
  · refine .inr (.inr ⟨?_, r⟩)
    cases q : h₀.get? b with
    | none => rfl
    | some o' => refine byE (d b o' q) fun o'' q' => ?_; rw [n] at q'; cases q'
theorem XAt.older {n₀ : Nat} {h₀ h₁ h : Heap} {V : Addr → Prop} {tb cx : Bool} {e : Addr} (x : XAt n₀ h₁ h V tb cx e) (d : Dom h₀ h₁) : XAt n₀ h₀ h V tb cx e := by
  have dn : ∀ b, h₁.get? b = none → h₀.get? b = none := fun b n => by
    cases q : h₀.get? b with
    | none => rfl
    | some o' => refine byE (d b o' q) fun o'' q' => ?_; rw [n] at q'; cases q'
  obtain ⟨a, b, c, oe, vs, h1, h2, h3, h4, h5, h6⟩ := x
  refine ⟨dn _ a, b, c, oe, vs, h1, h2, h3, h4, h5, h6.imp id ?_⟩
  rintro ⟨T, oT, ts, t1, t2, t3⟩
  exact ⟨T, oT, ts, t1, dn _ t2, t3⟩
theorem XAt.kept {n₀ : Nat} {h₀ h h' : Heap} {V V' W : Addr → Prop} {tb cx : Bool} {e : Addr} (x : XAt n₀ h₀ h V tb cx e) (k : KpOff W h h') (hw : ∀ b, W b → V b) (hv : ∀ b, V' b → V b ∨ h.get? b = none) : XAt n₀ h₀ h' V' tb cx e := by
  obtain ⟨a, b, c, oe, vs, h1, h2, h3, h4, h5, h6⟩ := x
  refine ⟨a, b, fun q => (hv e q).elim c fun z => (by rw [h1] at z; cases z), oe, vs, (k e oe (fun q => c (hw _ q)) h1).exact (by rw [h2]; simp) (by rw [h2]; simp), h2, h3, h4, h5, h6.imp id ?_⟩
  rintro ⟨T, oT, ts, t1, t2, t3, t4, t5, t6, t7, t8⟩
  exact ⟨T, oT, ts, t1, t2, t3, fun q => (hv T q).elim t4 fun z => (by rw [t6] at z; cases z), t5, (k T oT (fun q => t4 (hw _ q)) t6).exact (by rw [t7]; simp) (by rw [t7]; simp), t7, t8⟩
section
variable {B : Base} {k : Nat} {K : Kinds} {Γ Γ' : G} {A : Around} {s : Shared} {env : Env}
theorem Frames.xch {h₀ h h' : Heap} {n₀ : Nat} (f : Frames B A h) (x : XCh n₀ h₀ h h') : Frames B A h' := by
  (refine byEA (f) fun l e hl => ?_; (try clear f))
  refine ⟨l, e, fun env' he => ?_⟩
  (refine byA (hl env' he) fun hk hr1 => ?_; refine byEE (hr1) fun L o hr2 => ?_; (try clear hr1); refine byEEAAA (hr2) fun es ep f1 f2 f3 hr3 => ?_; (try clear hr2); refine byA (hr3) fun f4 f5 => ?_; (try clear hr3))
  rcases x L o f3 with q | ⟨_, _, sl, q⟩ | ⟨_, _, p, _⟩
  · exact ⟨hk, L, o, es, ep, f1, f2, q, f4, f5⟩
  · exact ⟨hk, L, _, es, ep, f1, f2, q, f4, f5⟩
  · exact absurd f4 p.2.1
theorem Inv.xch (O : B.Ok) {h₀ h' : Heap} (i : Inv B A s) (x : XCh B.n₀ h₀ s.heap h') {tk : Nat} : Inv B A { s with heap := h', toks := tk } := by
  refine ⟨O.step _ _ i.good fun b o hb e => ?_, i.gens, i.os, i.fr.xch x⟩
  rcases x b o e with q | ⟨_, l, _⟩ | ⟨_, l, _⟩
  · exact q
  · exact absurd hb (Nat.not_lt.mpr l)
  · exact absurd hb (Nat.not_lt.mpr l)
noncomputable def AtTop (A : Around) (env : Env) : Prop := ∃ outer L, A.frames = some (env :: outer) ∧ env.frame = some L
theorem Inv.mark (i : Inv B A s) (m : Option Value) : Inv B (A.mark m) s := ⟨i.good, i.gens, i.os, i.fr⟩
theorem Inv.unmark {m : Option Value} (i : Inv B (A.mark m) s) : Inv B A s := ⟨i.good, i.gens, i.os, i.fr⟩
noncomputable def nohp : Heap := {}
theorem funFrames (i : Inv B A s) {l : List Env} (e : A.frames = some l) : s.heap.FunFrames nohp l := by
  refine byEA (i.fr) fun l' e' hl => ?_
  rw [e] at e'; cases e'
  have go : ∀ m : List Env, (∀ env ∈ m, env ∈ l) → s.heap.FunFrames nohp m := by
    intro m
    induction m with
    | nil => intro _; trivial
    | cons a m IH =>
      intro hm
      (refine byA (hl a (hm a (.head _))) fun hk hr4 => ?_; refine byEE (hr4) fun L o hr5 => ?_; (try clear hr4); refine byEEAAA (hr5) fun es ep f1 f2 f3 hr6 => ?_; (try clear hr5); refine byA (hr6) fun f4 f5 => ?_; (try clear hr6))
      exact ⟨hk, ⟨L, o, f1, by simp [nohp, Heap.get?], f3, fun vs q => by rw [f5] at q; cases q⟩, IH fun b hb => hm b (.tail _ hb)⟩
  exact go l fun _ h => h
theorem slots_xch {h₀ h' : Heap} (i : Inv B A s) {l : List Env} (e : A.frames = some l) (x : Heap.SlotsOnly (l.filterMap (·.frame)) s.heap h') : XCh B.n₀ h₀ s.heap h' := fun b o eb => by
  by_cases hb : b ∈ l.filterMap (·.frame)
  · refine byEA (i.fr) fun l' e' hl => ?_
    rw [e] at e'; cases e'
    refine byEA (List.mem_filterMap.mp hb) fun env' m q => ?_
    (refine byA (hl env' m) fun hk hr7 => ?_; refine byEE (hr7) fun L o' hr8 => ?_; (try clear hr7); refine byEEAAA (hr8) fun es ep f1 f2 f3 hr9 => ?_; (try clear hr8); refine byA (hr9) fun f4 f5 => ?_; (try clear hr9))
    rw [f1] at q; cases q
    rw [eb] at f3; cases f3
    refine byE (x.2.2 b o eb) fun sl q => ?_
    exact .inr (.inl ⟨f4, f2, sl, q⟩)
  · exact .inl ((x.2.1 b hb).trans eb)
theorem x_entry (O : B.Ok) (i : Inv B A s) {outer : List Env} {L : Addr} {h₀ : Heap} {V : Addr → Prop} {cx : Bool} {e : Addr} {oe : Obj} {vs : Array Value} {head : Value} {hadNext : Bool} {Q : Unit → Shared → Prop} {E : Value → Shared → Prop}
    (hfr : A.frames = some (env :: outer)) (hf : env.frame = some L) (he : s.heap.get? e = some oe) (hc : oe.cls = .type "IndexError") (hd : oe.data = .fields vs) (hsz : 2 < vs.size) (hcx : cx = false → vs[2]? = some .none)
    (new : h₀.get? e = none) (lo : B.n₀ ≤ e) (off : ¬ V e) (old : Dom h₀ s.heap) (hV : ∀ b, V b → ∃ o, s.heap.get? b = some o)
    (hQ : ∀ h', XCh B.n₀ h₀ s.heap h' → XAt B.n₀ h₀ h' V true cx e → Q () { s with heap := h' }) :
    wpAny B.M A (do let a ← frameOf env; let pl ← entryPlaceOf L hadNext; let b ← EntryCells.newEntry head a .none (rawInt L) .none pl; setField (.ref e) 1 b) Q E s := by
  refine wpAny_bind (wpAny_frameOf_fun hfr (funFrames i hfr) hf fun h₁ hs₁ => ?_)
  have x₁ : XCh B.n₀ h₀ s.heap h₁ := slots_xch i hfr hs₁
  refine wpAny_bind (wpAny_entryPlaceOf fun pl hpl => ?_)
  unfold EntryCells.newEntry newFields
  refine wpAny_bind (wpAny_newObj_type ?_ (hpl.sizeOk5 _ _ _ _ _))
  have he₁ : h₁.get? e = some oe := by
    rcases x₁ e oe he with q | ⟨q, _⟩ | ⟨_, _, _, _, o', q, _⟩
    · exact q
    · rw [hc] at q; exact absurd q (by simp)
    · refine byE (hs₁.2.2 e oe he) fun sl q' => ?_
      by_cases hb : e ∈ (env :: outer).filterMap (·.frame)
      · refine byEA (i.fr) fun l' e' hl => ?_
        rw [hfr] at e'; cases e'
        refine byEA (List.mem_filterMap.mp hb) fun env' m z => ?_
        (refine byA (hl env' m) fun hk hr10 => ?_; refine byEE (hr10) fun L' o'' hr11 => ?_; (try clear hr10); refine byEEAAA (hr11) fun es ep f1 f2 f3 hr12 => ?_; (try clear hr11); refine byA (hr12) fun f4 f5 => ?_; (try clear hr12))
        rw [f1] at z; cases z
        rw [he] at f3; cases f3
        rw [hc] at f4; exact absurd f4 (by simp)
      · exact (hs₁.2.1 e hb).trans he
  have he₂ := Heap.get?_push_of_some (h := h₁) { cls := .type "traceback", dict := none, data := .fields ([head, .ref L, .none, rawInt L, .none] ++ (if pl.isEmpty then List.replicate 6 Value.none else pl)).toArray } he₁
  refine wpAny_setField he₂ hd (by omega) (hQ _ ?_ ?_)
  · refine x₁.trans fun b o eb => ?_
    by_cases hbe : b = e
    · subst hbe
      rw [he₁] at eb; cases eb
      refine .inr (.inr ⟨new, lo, (priv_of hc (by decide)).1, by rw [hc]; simp, _, Heap.get?_update_self _ he₂ (Obj.isFreed_of_fields (Obj.data_mapFields hd _)), Obj.cls_mapFields _ _⟩)
    · refine .inl ?_
      rw [Heap.get?_update_other _ _ (Ne.symm hbe)]
      exact Heap.get?_push_of_some _ eb
  · have hTe : h₁.objs.size ≠ e := Nat.ne_of_gt (Heap.lt_size he₁)
    have hd₃ := Obj.data_mapFields hd (·.setIfInBounds 1 (Value.ref h₁.objs.size))
    have sz : h₁.objs.size = s.heap.objs.size := hs₁.1
    refine ⟨new, lo, off, _, _, Heap.get?_update_self _ he₂ (Obj.isFreed_of_fields hd₃), (Obj.cls_mapFields _ _).trans hc, hd₃, by simp [hsz], fun q => ?_, .inr ⟨h₁.objs.size, { cls := .type "traceback", dict := none, data := .fields ([head, .ref L, .none, rawInt L, .none] ++ (if pl.isEmpty then List.replicate 6 Value.none else pl)).toArray }, _, by rw [Array.getElem?_setIfInBounds_self_of_lt (by omega)], ?_, ?_, ?_, hTe, ?_, rfl, rfl, by simp only [List.size_toArray, List.length_append, List.length_cons, List.length_nil]; omega⟩⟩
    · rw [Array.getElem?_setIfInBounds_ne (by decide)]; exact hcx q
    · cases q : h₀.get? h₁.objs.size with
      | none => rfl
      | some o' => refine byE (old _ _ q) fun o'' q' => ?_; rw [sz] at q'; exact absurd (Heap.lt_size q') (Nat.lt_irrefl _)
    · rw [sz]; exact O.size _ i.good
    · intro q
      refine byE (hV _ q) fun o' q' => ?_
      rw [sz] at q'; exact absurd (Heap.lt_size q') (Nat.lt_irrefl _)
    · exact (Heap.get?_update_other _ _ (Ne.symm hTe)).trans (Heap.get?_push_size h₁ rfl)
theorem x_field3 {h₀ : Heap} {V : Addr → Prop} {cx : Bool} {e T : Addr} {oe oT : Obj} {vs ts : Array Value} {v : Value} {Q : Unit → Shared → Prop} {E : Value → Shared → Prop} 
    (new : h₀.get? e = none) (lo : B.n₀ ≤ e) (off : ¬ V e) (he : s.heap.get? e = some oe) (hc : oe.cls = .type "IndexError") (hd : oe.data = .fields vs) (hsz : 2 < vs.size) (hcx : cx = false → vs[2]? = some .none)
    (t1 : vs[1]? = some (.ref T)) (t2 : h₀.get? T = none) (t3 : B.n₀ ≤ T) (t4 : ¬ V T) (t5 : T ≠ e) (t6 : s.heap.get? T = some oT) (t7 : oT.cls = .type "traceback") (t8 : oT.data = .fields ts) (t9 : 3 < ts.size)
    (hQ : ∀ h', XCh B.n₀ h₀ s.heap h' → XAt B.n₀ h₀ h' V true cx e → h'.get? e = some oe → (∃ oT' ts', h'.get? T = some oT' ∧ oT'.cls = .type "traceback" ∧ oT'.data = .fields ts' ∧ 3 < ts'.size) → Q () { s with heap := h' }) :
    wpAny B.M A (setField (.ref T) 3 v) Q E s := by
  have hd₃ := Obj.data_mapFields t8 (·.setIfInBounds 3 v)
  have hT := Heap.get?_update_self (Obj.mapFields (·.setIfInBounds 3 v)) t6 (Obj.isFreed_of_fields hd₃)
  have hT' : ∃ oT' ts', (s.heap.update T (Obj.mapFields (·.setIfInBounds 3 v))).get? T = some oT' ∧ oT'.cls = .type "traceback" ∧ oT'.data = .fields ts' ∧ 3 < ts'.size := ⟨_, _, hT, (Obj.cls_mapFields _ _).trans t7, hd₃, by simp [t9]⟩
  have he' : (s.heap.update T (Obj.mapFields (·.setIfInBounds 3 v))).get? e = some oe := (Heap.get?_update_other _ _ t5).trans he
  refine wpAny_setField t6 t8 t9 (hQ _ (fun b o eb => ?_) ⟨new, lo, off, oe, vs, he', hc, hd, hsz, hcx, .inr ?_⟩ he' hT')
  · by_cases hb : b = T
    · subst hb
      rw [t6] at eb; cases eb
      exact .inr (.inr ⟨t2, t3, (priv_of t7 (by decide)).1, by rw [t7]; simp, _, hT, Obj.cls_mapFields _ _⟩)
    · exact .inl ((Heap.get?_update_other _ _ (Ne.symm hb)).trans eb)
  · (refine byEEAAA (hT') fun oT' ts' a b c d => ?_; (try clear hT'))
    exact ⟨T, oT', ts', t1, t2, t3, t4, t5, a, b, c, d⟩
theorem x_note (O : B.Ok) (i : Inv B A s) (tp : AtTop A env) {h₀ : Heap} {V : Addr → Prop} {tb cx : Bool} {e : Addr} (x : XAt B.n₀ h₀ s.heap V tb cx e) (old : Dom h₀ s.heap) (hV : ∀ b, V b → ∃ o, s.heap.get? b = some o) {Q : Unit → Shared → Prop} {E : Value → Shared → Prop}
    (hQ : ∀ h', XCh B.n₀ h₀ s.heap h' → XAt B.n₀ h₀ h' V true cx e → Q () { s with heap := h' }) : wpAny B.M A (noteFrame (.ref e) env) Q E s := by
  (refine byEEA (tp) fun outer L hfr hf => ?_; (try clear tp))
  obtain ⟨new, lo, off, oe, vs, he, hc, hd, hsz, hcx, h6⟩ := id x
  unfold noteFrame
  simp only [hf]
  rcases h6 with ⟨_, h1⟩ | ⟨T, oT, ts, t1, t2, t3, t4, t5, t6, t7, t8, t9⟩
  · refine wpAny_bind (wpAny_field he hd h1 ?_)
    rw [if_neg (by decide)]
    exact x_entry O i hfr hf he hc hd hsz hcx new lo off old hV hQ
  · refine wpAny_bind (wpAny_field he hd t1 ?_)
    rw [if_pos (show (Value.ref T != Value.none) = true from by simp)]
    have g3 : ts[3]? = some ts[3] := by simp [t9]
    refine wpAny_bind (wpAny_field t6 t8 g3 ?_)
    split
    · exact wpAny_pure (hQ s.heap .refl ⟨new, lo, off, oe, vs, he, hc, hd, hsz, hcx, .inr ⟨T, oT, ts, t1, t2, t3, t4, t5, t6, t7, t8, t9⟩⟩)
    · refine wpAny_bind (x_field3 (V := V) (cx := cx) new lo off he hc hd hsz hcx t1 t2 t3 t4 t5 t6 t7 t8 t9 fun h₁ x₁ _ he₁ _ => ?_)
      refine x_entry (s := { s with heap := h₁ }) O (i.xch O (tk := s.toks) x₁) hfr hf he₁ hc hd hsz hcx new lo off (old.trans x₁.dom) (fun b q => let ⟨o, z⟩ := hV b q; x₁.dom b o z) fun h' x' a' => hQ h' (x₁.trans x') a'
theorem x_flight {h₀ : Heap} {V : Addr → Prop} {cx : Bool} {e : Addr} {f : Option Addr} (x : XAt B.n₀ h₀ s.heap V true cx e) {Q : Unit → Shared → Prop} {E : Value → Shared → Prop}
    (hQ : ∀ h', XCh B.n₀ h₀ s.heap h' → XAt B.n₀ h₀ h' V true cx e → Q () { s with heap := h' }) : wpAny B.M A (setFlight (.ref e) f) Q E s := by
  obtain ⟨new, lo, off, oe, vs, he, hc, hd, hsz, hcx, h6⟩ := id x
  rcases h6 with ⟨h, _⟩ | ⟨T, oT, ts, t1, t2, t3, t4, t5, t6, t7, t8, t9⟩
  · cases h
  · unfold setFlight
    refine wpAny_bind (wpAny_field he hd t1 ?_)
    rw [if_pos (show (Value.ref T != Value.none) = true from by simp)]
    exact x_field3 (V := V) (cx := cx) new lo off he hc hd hsz hcx t1 t2 t3 t4 t5 t6 t7 t8 t9 fun h₁ x₁ a₁ _ _ => hQ h₁ x₁ a₁
end
end Jv
namespace Jv
open PySem PySem.W PySem.Calls PyProof.Rows
noncomputable def CanR (A : Around) (V : Addr → Prop) (h : Heap) : Prop := A.handled = none ∨ ∃ a o vs, A.handled = some (.ref a) ∧ ¬ V a ∧ h.get? a = some o ∧ o.cls = .type "IndexError" ∧ o.data = .fields vs ∧ vs[2]? = some .none
noncomputable def cxOf (A : Around) : Bool := A.handled.isSome
theorem CanR.kp {A : Around} {V : Addr → Prop} {h h' : Heap} (c : CanR A V h) (k : Kp h h') : CanR A V h' := by
  rcases c with c | ⟨a, o, vs, c1, c2, c3, c4, c5⟩
  · exact .inl c
  · exact .inr ⟨a, o, vs, c1, c2, (k a o c3).exact (by rw [c4]; simp) (by rw [c4]; simp), c4, c5⟩
theorem CanR.ext {A : Around} {V₀ W W' : Addr → Prop} {h h' : Heap} (c : CanR A (fun b => V₀ b ∨ W b) h) (k : Ext W h W' h') : CanR A (fun b => V₀ b ∨ W' b) h' := by
  rcases c with c | ⟨a, o, vs, c1, c2, c3, c4, c5⟩
  · exact .inl c
  · refine .inr ⟨a, o, vs, c1, fun q => ?_, (k.kp a o (fun q => c2 (.inr q)) c3).exact (by rw [c4]; simp) (by rw [c4]; simp), c4, c5⟩
    rcases q with q | q
    · exact c2 (.inl q)
    · rcases k.new a q with z | z
      · exact c2 (.inr z)
      · rw [c3] at z; cases z
theorem XAt.any {n₀ : Nat} {h₀ h : Heap} {V : Addr → Prop} {tb cx : Bool} {e : Addr} (x : XAt n₀ h₀ h V tb cx e) : XAt n₀ h₀ h V false cx e := by
  obtain ⟨a, b, c, oe, vs, h1, h2, h3, h4, h5, h6⟩ := x
  exact ⟨a, b, c, oe, vs, h1, h2, h3, h4, h5, h6.imp (fun z => ⟨rfl, z.2⟩) id⟩
theorem XAt.cx {n₀ : Nat} {h₀ h : Heap} {V : Addr → Prop} {tb cx : Bool} {e : Addr} (x : XAt n₀ h₀ h V tb cx e) : XAt n₀ h₀ h V tb true e := by
  obtain ⟨a, b, c, oe, vs, h1, h2, h3, h4, h5, h6⟩ := x
  exact ⟨a, b, c, oe, vs, h1, h2, h3, h4, (fun q => by cases q), h6⟩
section
variable {B : Base} {k : Nat} {K : Kinds} {Γ Γ' : G} {A : Around} {s : Shared} {env : Env} {V : Addr → Prop}
theorem entry_unchain : entryFor table "proto.unchain" = some Builtin.«proto.unchain» := entryFor_of_fast (by kernel_rfl)
theorem x_raise {α : Type} {Q : α → Shared → Prop} {E : Value → Shared → Prop} {e : Addr} {t : Value} {h₁ : Heap} (cr : CanR A V s.heap) (hV : ∀ b, V b → ∃ o, s.heap.get? b = some o)
    (keep : ∀ b o, s.heap.get? b = some o → h₁.get? b = some o) (new : s.heap.get? e = none) (lo : B.n₀ ≤ e) (he : h₁.get? e = some { cls := .type "IndexError", dict := none, data := .fields #[t, .none, .none, .none, .bool false, .none] }) {tk : Nat}
    (hE : ∀ h', (∀ b o, s.heap.get? b = some o → h'.get? b = some o) → XAt B.n₀ s.heap h' V false (cxOf A) e → E (.ref e) { s with heap := h', toks := tk }) :
    wpAny B.M A (raiseNew (.ref e) : Sem α) Q E { s with heap := h₁, toks := tk } := by
  have off : ¬ V e := fun q => by refine byE (hV e q) fun o z => ?_; rw [new] at z; cases z
  unfold raiseNew
  refine wpAny_bind (wpAny_handled ?_)
  rcases cr with c | ⟨a, o, vs, c1, c2, c3, c4, c5, c6⟩
  · rw [c]
    refine wpAny_bind (wpAny_pure (wpAny_throw ?_))
    exact hE h₁ keep ⟨new, lo, off, _, _, he, rfl, rfl, by show 2 < 6; decide, fun _ => rfl, .inl ⟨rfl, rfl⟩⟩
  · rw [c1]
    have hae : a ≠ e := by rintro rfl; rw [new] at c3; cases c3
    have hne : (Value.ref a != Value.ref e) = true := by simp [hae]
    show wpAny _ _ (if (Value.ref a != Value.ref e) = true then _ else _) _ _ _
    rw [if_pos hne]
    refine wpAny_bind (wpAny_holding (wpAny_runValue (codeAny_builtin entry_unchain ?_)))
    unfold Builtin.«proto.unchain»
    have ha : h₁.get? a = some o := keep a o c3
    refine wpAny_bind (m := field (.ref a) 2) (wpAny_field (s := { s with heap := h₁, toks := tk }) ha c5 c6 ?_)
    rw [if_pos (by decide)]
    refine wpAny_bind (m := ret .none) (wpAny_pure ?_)
    refine wpAny_pure ?_
    show wpAny B.M A (setField (.ref e) 2 (.ref a) >>= _) _ E { s with heap := h₁, toks := tk }
    refine wpAny_bind (wpAny_setField (s := { s with heap := h₁, toks := tk }) he rfl (by show 2 < 6; decide) (wpAny_throw ?_))
    have hd₃ := Obj.data_mapFields (o := { cls := .type "IndexError", dict := none, data := .fields #[t, .none, .none, .none, .bool false, .none] }) rfl (·.setIfInBounds 2 (Value.ref a))
    have hx : cxOf A = true := by unfold cxOf; rw [c1]; rfl
    refine hE _ (fun b o' eb => ?_) ⟨new, lo, off, _, _, Heap.get?_update_self _ he (Obj.isFreed_of_fields hd₃), Obj.cls_mapFields _ _, hd₃, by simp, fun q => (by rw [hx] at q; cases q), .inl ⟨rfl, by simp⟩⟩
    have hb : b ≠ e := by rintro rfl; rw [new] at eb; cases eb
    exact (Heap.get?_update_other _ _ (Ne.symm hb)).trans (keep b o' eb)
theorem x_raiseWords {α : Type} {msg : String} {Q : α → Shared → Prop} {E : Value → Shared → Prop} (O : B.Ok) (i : Inv B A s) (cr : CanR A V s.heap) (hV : ∀ b, V b → ∃ o, s.heap.get? b = some o)
    (hE : ∀ h' tk e, (∀ b o, s.heap.get? b = some o → h'.get? b = some o) → XAt B.n₀ s.heap h' V false (cxOf A) e → E (.ref e) { s with heap := h', toks := tk }) :
    wpAny B.M A (raiseErrorWords "IndexError" msg : Sem α) Q E s := by
  unfold raiseErrorWords
  refine wpAny_bind (wpAny_mkText (wpAny_bind ?_))
  unfold newExc newTuple
  refine wpAny_bind (wpAny_newObj_type ?_)
  refine wpAny_bind (m := firstArgMember _ _) (wpAny_of_eq (a := Value.none) (by simp only [firstArgMember, plainExc_IndexError.first]; rfl) ?_)
  rw [plainExc_IndexError.own]
  refine wpAny_newObj_type ?_
  refine x_raise cr hV (fun b o e => Heap.get?_push_of_some _ (Heap.get?_push_of_some _ e)) (Heap.get?_none_of_le (by simp)) ?_ (Heap.get?_push_size _ rfl) (fun h' k x => hE h' _ _ k x)
  rw [Heap.size_push]
  exact Nat.le_trans (O.size _ i.good) (Nat.le_succ _)
theorem fitsPos {n : Int} (h0 : 0 ≤ n) (h1 : n < 2 ^ 63) : Builtin.List.listFitsIndex n = true := by
  unfold Builtin.List.listFitsIndex
  simp only [Bool.and_eq_true, decide_eq_true_eq]
  omega
theorem x_item {l : Addr} {items : Array Value} {n : Int} {t : Tok} {Q : Value → Shared → Prop} {E : Value → Shared → Prop} (O : B.Ok) (i : Inv B A s) (cr : CanR A V s.heap) (hV : ∀ b, V b → ∃ o, s.heap.get? b = some o)
    (hl : s.heap.IsList l items) (h0 : (items.size : Int) ≤ n) (h1 : n < 2 ^ 63)
    (hE : ∀ h' tk e, (∀ b o, s.heap.get? b = some o → h'.get? b = some o) → XAt B.n₀ s.heap h' V false (cxOf A) e → E (.ref e) { s with heap := h', toks := tk }) :
    wpAny B.M A (getItem (.ref l) (.int n t)) Q E s := by
  refine byEAAE (id hl) fun o ho hc ne hd => ?_
  unfold getItem
  try with_reducible refine wpAny_holding ?_
  first | refine wpAny_bind (wpAny_pure ?_) | skip
  refine wpAny_bind (wpAny_sequenceKey hl.typeIs (by decide) ?_)
  refine wpAny_bind (wpAny_callSpecial?_slot (name := Str.ofString "__getitem__") hl.typeIs slot_list_getitem
    (wpAny_call_entry slot_list_getitem hl.typeIs entry_list_getitem ?_ (args_list_getitem _ _)))
  show wpAny _ _ (Builtin.List.listSubscript? (.int n t) >>= _) _ _ s
  refine wpAny_bind (wpAny_listSubscript_int (fitsPos (by omega) h1) ?_)
  clear h1
  obtain ⟨j, rfl⟩ : ∃ j : Nat, n = Int.ofNat j := ⟨n.toNat, by simp only [Int.ofNat_eq_natCast]; omega⟩
  have hx : items[j]? = none := Array.getElem?_eq_none (by have : (items.size : Int) ≤ (j : Int) := h0; omega)
  show wpAny _ _ ((seqItemAt l j >>= fun r => pure (r.map (j, ·))) >>= _) _ _ s
  refine wpAny_bind (wpAny_bind (wpAny_seqItemAt ho hd (wpAny_pure ?_)))
  rw [hx]
  first
    | exact wpAny_bind (wpAny_rule (x_raiseWords O i.in1 cr hV hE))
    | exact wpAny_bind (wpAny_rule (wpAny_bind (x_raiseWords O i.in1 cr hV hE)))
    | exact wpAny_bind (wpAny_bind (wpAny_rule (x_raiseWords O i.in1 cr hV hE)))
    | exact wpAny_rule (x_raiseWords O i.in1 cr hV hE)
end
end Jv
namespace Jv
open PySem PySem.W PySem.Calls PyProof.Rows
structure EvX (B : Base) (k : Nat) (K : Kinds) (Γ : G) (e : Expr) : Prop where
  run : ∀ (A : Around) (env : Env) (V : Addr → Prop) (s : Shared) (Q : Value → Shared → Prop) (E : Value → Shared → Prop),
  Room k A → EnvOk K env → Inv B A s → EnvR B V s.heap env Γ → CanR A V s.heap →
  (∀ x s', Inv B A s' → Kp s.heap s'.heap → XAt B.n₀ s.heap s'.heap V false (cxOf A) x → E (.ref x) s') → wpAny B.M A (eval e env) Q E s
structure EvTX (B : Base) (k : Nat) (K : Kinds) (Γ : G) (e : Expr) : Prop where
  run : ∀ (A : Around) (env : Env) (V : Addr → Prop) (s : Shared) (Q : Bool → Shared → Prop) (E : Value → Shared → Prop),
  Room k A → EnvOk K env → Inv B A s → EnvR B V s.heap env Γ → CanR A V s.heap →
  (∀ x s', Inv B A s' → Kp s.heap s'.heap → XAt B.n₀ s.heap s'.heap V false (cxOf A) x → E (.ref x) s') → wpAny B.M A (isTrue e env (eval e env)) Q E s
structure ExX (B : Base) (k : Nat) (K : Kinds) (Γ : G) (ss : List Stmt) (c : Bool) (Γ' : G) : Prop where
  run : ∀ (A : Around) (env : Env) (V₀ W : Addr → Prop) (s : Shared) (Q : Flow → Shared → Prop) (E : Value → Shared → Prop),
  Room k A → EnvOk K env → Inv B A s → Stm B V₀ W s.heap env Γ → AtTop A env → CanR A (fun b => V₀ b ∨ W b) s.heap →
  (∀ x s' W', Inv B A s' → Dom s.heap s'.heap → Ext W s.heap W' s'.heap → Stm B V₀ W' s'.heap env Γ' → XAt B.n₀ s.heap s'.heap (fun b => V₀ b ∨ W' b) false (c || cxOf A) x → E (.ref x) s') → wpAny B.M A (execs ss env) Q E s
structure ExX1 (B : Base) (k : Nat) (K : Kinds) (Γ : G) (st : Stmt) (c : Bool) (Γ' : G) : Prop where
  run : ∀ (A : Around) (env : Env) (V₀ W : Addr → Prop) (s : Shared) (Q : Flow → Shared → Prop) (E : Value → Shared → Prop),
  Room k A → EnvOk K env → Inv B A s → Stm B V₀ W s.heap env Γ → AtTop A env → CanR A (fun b => V₀ b ∨ W b) s.heap →
  (∀ x s' W', Inv B A s' → Dom s.heap s'.heap → Ext W s.heap W' s'.heap → Stm B V₀ W' s'.heap env Γ' → XAt B.n₀ s.heap s'.heap (fun b => V₀ b ∨ W' b) false (c || cxOf A) x → E (.ref x) s') → wpAny B.M A (exec st env) Q E s
structure ExT (B : Base) (k : Nat) (K : Kinds) (Γ : G) (ss : List Stmt) (o : Out) (Γ' : G) : Prop where
  run : ∀ (A : Around) (env : Env) (V₀ W : Addr → Prop) (s : Shared) (Q : Flow → Shared → Prop) (E : Value → Shared → Prop),
  Room k A → EnvOk K env → Inv B A s → Stm B V₀ W s.heap env Γ → AtTop A env →
  (∀ fl s' W', Inv B A s' → Dom s.heap s'.heap → Ext W s.heap W' s'.heap → Stm B V₀ W' s'.heap env Γ' → OutIs B (fun b => V₀ b ∨ W' b) s'.heap o fl → Q fl s') → wpAny B.M A (execs ss env) Q E s
structure ExT1 (B : Base) (k : Nat) (K : Kinds) (Γ : G) (st : Stmt) (o : Out) (Γ' : G) : Prop where
  run : ∀ (A : Around) (env : Env) (V₀ W : Addr → Prop) (s : Shared) (Q : Flow → Shared → Prop) (E : Value → Shared → Prop),
  Room k A → EnvOk K env → Inv B A s → Stm B V₀ W s.heap env Γ → AtTop A env →
  (∀ fl s' W', Inv B A s' → Dom s.heap s'.heap → Ext W s.heap W' s'.heap → Stm B V₀ W' s'.heap env Γ' → OutIs B (fun b => V₀ b ∨ W' b) s'.heap o fl → Q fl s') → wpAny B.M A (exec st env) Q E s
section
variable {B : Base} {k : Nat} {K : Kinds} {Γ Γ' : G} {A : Around} {s : Shared} {env : Env} {V : Addr → Prop}
theorem Ex.t {ss : List Stmt} {o : Out} (x : Ex B k K Γ ss o Γ') : ExT B k K Γ ss o Γ' := .mk fun A env V₀ W s Q E rm eo i st _ h => x.run A env V₀ W s Q E rm eo i st h
theorem Ex1.t {ss : Stmt} {o : Out} (x : Ex1 B k K Γ ss o Γ') : ExT1 B k K Γ ss o Γ' := .mk fun A env V₀ W s Q E rm eo i st _ h => x.run A env V₀ W s Q E rm eo i st h
theorem ExT.cons {Γ₁ Γ₂ : G} {st : Stmt} {ss : List Stmt} {o : Out} (x : ExT1 B k K Γ st .next Γ₁) (y : ExT B k K Γ₁ ss o Γ₂) : ExT B k K Γ (st :: ss) o Γ₂ :=
  .mk fun A env V₀ W s Q E r eo i z tp h => wpAny_execs_cons (x.run A env V₀ W s _ E r eo i z tp fun fl s' W' i' dm ex z' ou => by
    obtain rfl : fl = .next := ou
    exact y.run A env V₀ W' s' Q E r eo i' z' tp fun fl s'' W'' i'' dm' ex' z'' ou' => h fl s'' W'' i'' (dm.trans dm') (ex.trans ex' dm) z'' ou')
theorem ExT.stop {Γ₁ : G} {st : Stmt} {ss : List Stmt} {o : Out} (x : ExT1 B k K Γ st o Γ₁) (ho : o ≠ .next) : ExT B k K Γ (st :: ss) o Γ₁ :=
  .mk fun A env V₀ W s Q E r eo i z tp h => wpAny_execs_cons (x.run A env V₀ W s _ E r eo i z tp fun fl s' W' i' dm ex z' ou => by
    have := h fl s' W' i' dm ex z' ou
    cases o with
    | next => exact absurd rfl ho
    | brk => obtain rfl : fl = .brk := ou; exact this
    | ret d => (refine byEA (ou) fun v hq1 _ => ?_; (try clear ou); subst hq1); exact this)
theorem ExT.nil : ExT B k K Γ [] .next Γ := Ex.nil.t
theorem ExT.weak {Γ₂ : G} {stm : List Stmt} {o : Out} (x : ExT B k K Γ stm o Γ') (hw : ∀ y sl, Γ₂.lookup y = some sl → Γ'.lookup y = some sl) : ExT B k K Γ stm o Γ₂ := .mk fun A env V₀ W s Q E rm eo i st tp h =>
  x.run A env V₀ W s Q E rm eo i st tp fun fl s' W' i' d e st' ou => h fl s' W' i' d e (st'.weak hw) ou
theorem ExT.share {ss : List Stmt} {o : Out} {x : Str} {d : D} (y : ExT B k K (put Γ x (.sh d)) ss o Γ') (hx : Γ.lookup x = some (.own none d)) : ExT B k K Γ ss o Γ' := .mk fun A env V₀ W s Q E rm eo i st tp h => by
  refine byEA (st.share hx) fun W' hw st' => ?_
  exact y.run A env V₀ W' s Q E rm eo i st' tp fun fl s' W'' i' dm ex st'' ou => h fl s' W'' i' dm ⟨fun b q => (ex.new b q).imp (hw b) id, fun b o nb e => ex.kp b o (fun q => nb (hw b q)) e⟩ st'' ou
theorem ExX.head {st : Stmt} {ss : List Stmt} {c : Bool} (x : ExX1 B k K Γ st c Γ') : ExX B k K Γ (st :: ss) c Γ' := .mk fun A env V₀ W s Q E rm eo i st tp cr h =>
  wpAny_execs_cons (x.run A env V₀ W s _ E rm eo i st tp cr h)
theorem ExX.tail {Γ₁ : G} {st : Stmt} {ss : List Stmt} {c : Bool} (x : Ex1 B k K Γ st .next Γ₁) (y : ExX B k K Γ₁ ss c Γ') : ExX B k K Γ (st :: ss) c Γ' := .mk fun A env V₀ W s Q E rm eo i z tp cr h =>
  wpAny_execs_cons (x.run A env V₀ W s _ E rm eo i z fun fl s' W' i' dm ex z' ou => by
    obtain rfl : fl = .next := ou
    exact y.run A env V₀ W' s' Q E rm eo i' z' tp (cr.ext ex) fun x s'' W'' i'' dm' ex' z'' xa => h x s'' W'' i'' (dm.trans dm') (ex.trans ex' dm) z'' (xa.older dm))
theorem ExX1.ife {t : Expr} {b e : List Stmt} {p : Pos} {c q : Bool} (x : EvT B k K Γ t c) (y : c = true → ExX B k K Γ b q Γ') (z : c = false → ExX B k K Γ e q Γ') : ExX1 B k K Γ (.If t b e p) q Γ' := .mk fun A env V₀ W s Q E rm eo i st tp cr h => by
  refine wpAny_If (x.run A env _ s _ E rm eo i st.r fun s₁ i₁ k₁ => ?_)
  have go : ∀ ss, ExX B k K Γ ss q Γ' → wpAny B.M A (execs ss env) Q E s₁ := fun ss w => w.run A env V₀ W s₁ Q E rm eo i₁ (st.kp k₁) tp (cr.kp k₁) fun fl s₂ W₂ i₂ d₂ e₂ st₂ xa => h fl s₂ W₂ i₂ (k₁.dom.trans d₂) ((Ext.of_kp k₁).trans e₂ k₁.dom) st₂ (xa.older k₁.dom)
  cases c with
  | true => rw [if_pos rfl]; exact go _ (y rfl)
  | false => rw [if_neg (by simp)]; exact go _ (z rfl)
theorem ExX1.assign {t value : Expr} {p : Pos} (x : EvX B k K Γ value)
    (hsw : ∀ env, swapsWithSole [t] value p.line env = pure false := by intro _; rfl) (hst : ∀ env, swappedStores [t] value env = pure none := by intro _; rfl) : ExX1 B k K Γ (.Assign [t] value p) false Γ := .mk fun A env V₀ W s Q E rm eo i st tp cr h =>
  wpAny_Assign_stores (x.run A env _ s _ E rm eo i st.r cr fun x s₁ i₁ k₁ xa => h x s₁ W i₁ k₁.dom (.of_kp k₁) (st.kp k₁) xa) (hsw env) (hst env)
theorem sub_x {prog : Program} {w : World} {A : Around} {E : Value → Shared → Prop} {s : Shared} {value slice : Expr} {o i : Value} {T id : String} {Q : Value → Shared → Prop} (hT : s.TypeIs o T)
    (hl : typeLookup (.type T) "__getitem__" = pure (some (.builtin id))) (h : wpAny (model prog w) A (getItem o i) (fun _ _ => False) E s)
    {ops : List Value} (hs : subscripted slice false o i = operate ops (getItem o i)) :
    wpAny (model prog w) A (subscriptTail value slice o i) Q E s := sub_tail hT hl (wpAny_mono h (fun _ _ f => f.elim) fun _ _ e => e) hs
theorem EvX.sub (O : B.Ok) {value slice : Expr} {p : Pos} {l : List D} {n : Int} (x : EvB B k K Γ value (.list l)) (y : EvB B k K Γ slice (.int n)) (hn : (l.length : Int) ≤ n) (hz : n < 2 ^ 63) (hs : notSlice slice = true := by rfl) : EvX B k K Γ (.Subscript value slice p) :=
  .mk fun A env V s Q E rm eo i g cr h => Subscript_ (x.run A env V s _ E rm eo i g fun v₁ s₁ i₁ k₁ l₁ => y.run A env V s₁ _ E rm eo i₁ (g.kp k₁) fun v₂ s₂ i₂ k₂ l₂ => by
    (refine byEEA ((l₁.kp k₂).asList) fun a items hq2 hr3 => ?_; subst hq2; refine byA (hr3) fun il ls => ?_; (try clear hr3))
    (refine byE (l₂.asInt) fun t hq4 => ?_; subst hq4)
    have g₂ := (g.kp k₁).kp k₂
    have k' := k₁.trans k₂
    refine sub_x il.isList.typeIs F.slot_list_getitem.lookup (x_item (V := V) O i₂ (cr.kp k') g₂.dom il.isList (by rw [show items.size = l.length by rw [← ls.length]; simp]; exact hn) hz fun h' tk e kp xa => ?_) (subscripted_plain hs _ _)
    exact h e _ (i₂.keep O kp) (k'.trans (.of kp)) (xa.older k'.dom))
theorem EvTX.cmp {l r : Expr} {op : CmpOp} {p : Pos} (x : EvX B k K Γ l) (hm : behindInMarks op r = false := by rfl) : EvTX B k K Γ (.Compare l [op] [r] p) :=
  .mk fun A env V s Q E rm o i g cr h => wpAny_isTrue_Compare1 (x.run A env V s _ E rm o i g cr h) hm
theorem x_back {A' : Around} (O : B.Ok) (i : Inv B A' s) (tp : AtTop A' env) {h₀ : Heap} {tb cx : Bool} {e : Addr} (x : XAt B.n₀ h₀ s.heap V tb cx e) (old : Dom h₀ s.heap) (hV : ∀ b, V b → ∃ o, s.heap.get? b = some o) {E : Value → Shared → Prop}
    (hQ : ∀ h', XCh B.n₀ h₀ s.heap h' → XAt B.n₀ h₀ h' V false cx e → E (.ref e) { s with heap := h' }) : notedBy B.M A' env (cameBackBy B.M A env E) (.ref e) s := by
  refine x_note O i tp x old hV fun h₁ x₁ a₁ => ?_
  (refine byEEAAA (a₁.there) fun oe vs he hc hd hr5 => ?_; refine byAA (hr5) fun hsz hcx h6 => ?_; (try clear hr5))
  (refine byEE (h6.resolve_left fun q => by cases q.1) fun T oT hr6 => ?_; refine byEA (hr6) fun ts t1 _ => ?_; (try clear hr6))
  refine wpAny_bind (m := field (.ref e) 1) (wpAny_field (s := { s with heap := h₁ }) he hd t1 ?_)
  rw [if_neg (by simp)]
  exact x_flight (s := { s with heap := h₁ }) a₁ fun h₂ x₂ a₂ => hQ h₂ (x₁.trans x₂) a₂.any
theorem ExX1.while_ (O : B.Ok) {test : Expr} {body : List Stmt} {p : Pos} (x : EvTX B k K Γ test) : ExX1 B k K Γ (.While test body [] p) false Γ := .mk fun A env V₀ W s Q E rm eo i st tp cr h => by
  refine wpAny_While (codeAny_whileLoop (prog := B.prog) (w := B.w) (fun n s' => s' = s) ?_ 0 rfl)
  rintro n s' rfl
  refine x.run A env _ s' _ _ rm eo i st.r cr fun x s₁ i₁ k₁ xa => ?_
  have g₁ := st.kp k₁
  exact x_back O i₁ tp xa k₁.dom g₁.r.dom fun h' xc xa' => h x { s₁ with heap := h' } W (i₁.xch O (tk := s₁.toks) xc) (k₁.dom.trans xc.dom) (xc.ext (Ext.of_kp k₁)) (g₁.kq xc.kq) xa'
theorem Ex1.whileNo {test : Expr} {body : List Stmt} {p : Pos} (x : EvT B k K Γ test false) : Ex1 B k K Γ (.While test body [] p) .next Γ := .mk fun A env V₀ W s Q E rm eo i st h => by
  refine wpAny_While (codeAny_whileLoop (prog := B.prog) (w := B.w) (fun n s' => s' = s) ?_ 0 rfl)
  rintro n s' rfl
  refine x.run A env _ s' _ _ rm eo i st.r fun s₁ i₁ k₁ => ?_
  rw [if_neg (by simp)]
  exact wpAny_execs_nil (h .next s₁ W i₁ k₁.dom (.of_kp k₁) (st.kp k₁) rfl)
theorem Room.mark (r : Room k A) (m : Option Value) : Room 0 (A.mark m) := ⟨by have := r.depth; show A.depth + 0 < 1000; omega, by have := r.units; show A.units + 40 * 0 + 100 < 9900; omega, fun z => absurd z (Nat.lt_irrefl 0)⟩
theorem Ex1.finally_ {body : List Stmt} {f₀ : Stmt} {fs : List Stmt} {p : Pos} {Γ₁ : G} (x : Ex B k K Γ body .next Γ₁) (y : Ex B k K Γ₁ (f₀ :: fs) .next Γ') : Ex1 B k K Γ (.Try body [] [] (f₀ :: fs) p) .next Γ' := .mk fun A env V₀ W s Q E rm eo i st h => by
  refine wpAny_Try_finally (prog := B.prog) (w := B.w) (x.run A env V₀ W s _ _ rm eo i st fun fl s₁ W₁ i₁ d₁ e₁ st₁ ou => ?_)
  obtain rfl : fl = .next := ou
  refine wpAny_execs_nil (y.run A env V₀ W₁ s₁ _ _ rm eo i₁ st₁ fun fl s₂ W₂ i₂ d₂ e₂ st₂ ou => ?_)
  obtain rfl : fl = .next := ou
  exact h .next s₂ W₂ i₂ (d₁.trans d₂) (e₁.trans e₂ d₁) st₂ rfl
theorem ExX1.finR (O : B.Ok) {body : List Stmt} {f₀ : Stmt} {fs : List Stmt} {p : Pos} {Γ₁ : G} {c : Bool} (x : Ex B k K Γ body .next Γ₁) (y : ExX B k K Γ₁ (f₀ :: fs) c Γ') : ExX1 B k K Γ (.Try body [] [] (f₀ :: fs) p) c Γ' := .mk fun A env V₀ W s Q E rm eo i st tp cr h => by
  refine wpAny_Try_finally (prog := B.prog) (w := B.w) (x.run A env V₀ W s _ _ rm eo i st fun fl s₁ W₁ i₁ d₁ e₁ st₁ ou => ?_)
  obtain rfl : fl = .next := ou
  refine wpAny_execs_nil (y.run A env V₀ W₁ s₁ _ _ rm eo i₁ st₁ tp (cr.ext e₁) fun x s₂ W₂ i₂ d₂ e₂ st₂ xa => ?_)
  exact x_back O i₂ tp xa d₂ st₂.r.dom fun h' xc xa' => h x { s₂ with heap := h' } W₂ (i₂.xch O (tk := s₂.toks) xc) ((d₁.trans d₂).trans xc.dom) ((xc.older d₁).ext (e₁.trans e₂ d₁)) (st₂.kq xc.kq) (xa'.older d₁)
theorem x_fin (O : B.Ok) (rm : Room (k + 1) A) (i : Inv B A s) {V₀ W : Addr → Prop} (st : Stm B V₀ W s.heap env Γ) (tp : AtTop A env) {h₀ : Heap} {x : Addr} (xa : XAt B.n₀ h₀ s.heap (fun b => V₀ b ∨ W b) false (cxOf A) x) (old : Dom h₀ s.heap)
    {f₀ : Stmt} {fs : List Stmt} {Q : Flow → Shared → Prop} {E : Value → Shared → Prop}
    (h : ∀ s₁, Inv B (A.mark (some (.ref x))) s₁ → XCh B.n₀ h₀ s.heap s₁.heap → Stm B V₀ W s₁.heap env Γ → CanR (A.mark (some (.ref x))) (fun b => V₀ b ∨ W b) s₁.heap → XAt B.n₀ h₀ s₁.heap (fun b => V₀ b ∨ W b) true false x →
      wpAny B.M (A.mark (some (.ref x))) (execs (f₀ :: fs) env) (fun g s₂ => match g with | .next => wpAny B.M A (PySem.passOn "try.finally" (.ref x) env) Q E s₂ | g => wpAny B.M A (setFlight (.ref x) none) (fun _ s₃ => Q g s₃) E s₂) (notedBy B.M (A.mark (some (.ref x))) env (cameBackBy B.M A env E)) s₁) :
    wpAny B.M A (noteFrame (.ref x) env) (fun _ s₂ => FinallyRaised B.prog B.w A E env (f₀ :: fs) Q (.ref x) s₂) (FinallyRaised B.prog B.w A E env (f₀ :: fs) Q) s := by
  have hn := rm.handled (Nat.succ_pos _)
  have hcx : cxOf A = false := by unfold cxOf; rw [hn]; rfl
  rw [hcx] at xa
  refine x_note O i tp xa old st.r.dom fun h₁ x₁ a₁ => ⟨ref_ne_byPass x, ?_⟩
  have st₁ := st.kq x₁.kq
  refine x_note (s := { s with heap := h₁ }) O (i.xch O (tk := s.toks) x₁) tp a₁ (old.trans x₁.dom) st₁.r.dom fun h₂ x₂ a₂ => ?_
  refine x_flight (s := { s with heap := h₂ }) a₂ fun h₃ x₃ a₃ => ?_
  have xx := (x₁.trans x₂).trans x₃
  refine h { s with heap := h₃ } ((i.xch O (tk := s.toks) xx).mark _) xx (st.kq xx.kq) (.inr ?_) a₃
  (refine byEEAAA (a₃.there) fun oe vs he hc hd hr7 => ?_; refine byAA (hr7) fun hsz hc2 _ => ?_; (try clear hr7))
  exact ⟨x, oe, vs, rfl, a₃.off, he, hc, hd, hc2 rfl⟩
theorem ExX1.finB (O : B.Ok) {body : List Stmt} {f₀ : Stmt} {fs : List Stmt} {p : Pos} {Γ₁ : G} (x : ExX B (k + 1) K Γ body false Γ₁) (y : Ex B 0 K Γ₁ (f₀ :: fs) .next Γ') : ExX1 B (k + 1) K Γ (.Try body [] [] (f₀ :: fs) p) false Γ' := .mk fun A env V₀ W s Q E rm eo i st tp cr h => by
  refine wpAny_Try_finally (prog := B.prog) (w := B.w) (x.run A env V₀ W s _ _ rm eo i st tp cr fun x s₁ W₁ i₁ d₁ e₁ st₁ xa => ?_)
  have hcx : cxOf A = false := by unfold cxOf; rw [rm.handled (Nat.succ_pos _)]; rfl
  refine x_fin O rm i₁ st₁ tp xa d₁ fun s₂ i₂ x₂ st₂ cr₂ a₂ => ?_
  refine y.run _ env V₀ W₁ s₂ _ _ (rm.mark _) eo i₂ st₂ fun fl s₃ W₃ i₃ d₃ e₃ st₃ ou => ?_
  obtain rfl : fl = .next := ou
  have a₃ : XAt B.n₀ s.heap s₃.heap (fun b => V₀ b ∨ W₃ b) true false x := a₂.kept e₃.kp (fun b q => .inr q) fun b q => q.elim (fun q => .inl (.inl q)) fun q => (e₃.new b q).imp .inr id
  show wpAny B.M A (PySem.passOn "try.finally" (.ref x) env) Q E s₃
  unfold PySem.passOn
  (refine byEEAAA (a₃.there) fun oe vs he hc hd hr8 => ?_; refine byAA (hr8) fun hsz hc2 h6 => ?_; (try clear hr8))
  (refine byEE (h6.resolve_left fun q => by cases q.1) fun T oT hr9 => ?_; refine byEA (hr9) fun ts t1 _ => ?_; (try clear hr9))
  refine wpAny_bind (wpAny_field he hd t1 ?_)
  rw [if_neg (by simp)]
  refine wpAny_bind (x_flight a₃ fun h₄ x₄ a₄ => wpAny_throw ?_)
  have ee := x₂.ext e₁
  have dd := d₁.trans x₂.dom
  refine h x { s₃ with heap := h₄ } W₃ (i₃.unmark.xch O (tk := s₃.toks) x₄) ((dd.trans d₃).trans x₄.dom) (x₄.ext (ee.trans e₃ dd)) (st₃.kq x₄.kq) ?_
  show XAt _ _ _ _ false (false || cxOf A) x
  rw [hcx]; exact a₄.any
theorem ExX1.finBR (O : B.Ok) {body : List Stmt} {f₀ : Stmt} {fs : List Stmt} {p : Pos} {Γ₁ : G} {c : Bool} (x : ExX B (k + 1) K Γ body false Γ₁) (y : ExX B 0 K Γ₁ (f₀ :: fs) c Γ') : ExX1 B (k + 1) K Γ (.Try body [] [] (f₀ :: fs) p) true Γ' := .mk fun A env V₀ W s Q E rm eo i st tp cr h => by
  refine wpAny_Try_finally (prog := B.prog) (w := B.w) (x.run A env V₀ W s _ _ rm eo i st tp cr fun x s₁ W₁ i₁ d₁ e₁ st₁ xa => ?_)
  refine x_fin O rm i₁ st₁ tp xa d₁ fun s₂ i₂ x₂ st₂ cr₂ a₂ => ?_
  refine y.run _ env V₀ W₁ s₂ _ _ (rm.mark _) eo i₂ st₂ tp cr₂ fun x₃ s₃ W₃ i₃ d₃ e₃ st₃ xa₃ => ?_
  refine x_back (A := A) O i₃ tp xa₃ d₃ st₃.r.dom fun h₄ x₄ a₄ => ?_
  have ee := x₂.ext e₁
  have dd := d₁.trans x₂.dom
  exact h x₃ { s₃ with heap := h₄ } W₃ (i₃.unmark.xch O (tk := s₃.toks) x₄) ((dd.trans d₃).trans x₄.dom) ((x₄.older dd).ext (ee.trans e₃ dd)) (st₃.kq x₄.kq) (a₄.cx.older dd)
theorem ExT1.caught (O : B.Ok) {body suite : List Stmt} {b₀ : Stmt} {p p' p'' : Pos} {Γ₁ : G} {o : Out} {c : Bool} (x : ExX B (k + 1) K Γ body c Γ₁) (y : Ex B 0 K Γ₁ (b₀ :: suite) o Γ') (bt : BltAt B "IndexError" (.type "IndexError")) (hK : K "IndexError" = some .globalImplicit) :
    ExT1 B (k + 1) K Γ (.Try body [.ExceptHandler (some (.Name "IndexError" p'')) none (b₀ :: suite) p'] [] [] p) o Γ' := .mk fun A env V₀ W s Q E rm eo i st tp h => by
  have hn := rm.handled (Nat.succ_pos _)
  refine wpAny_Try_except (prog := B.prog) (w := B.w) (x.run A env V₀ W s _ _ rm eo i st tp (.inl hn) fun x s₁ W₁ i₁ d₁ e₁ st₁ xa => ?_)
  refine x_note O i₁ tp xa d₁ st₁.r.dom fun h₂ x₂ a₂ => ?_
  refine x_flight (s := { s₁ with heap := h₂ }) a₂ fun h₃ x₃ a₃ => ?_
  have x₂₃ := x₂.trans x₃
  have i₃ : Inv B A { s₁ with heap := h₃ } := i₁.xch O (tk := s₁.toks) x₂₃
  have st₃ := st₁.kq x₂₃.kq
  refine wpAny_handleBy_builtin (b := true) (X := "IndexError") F.isExc_IndexError F.notTuple_IndexError F.self_IndexError (glob_blt O bt hK eo (i₃.mark (some (.ref x))) ⟨rfl, ?_, ?_⟩)
  · refine byEEAA (a₃.there) fun oe vs he hc _ => ?_
    exact ⟨oe, he, hc⟩
  · rw [if_pos rfl]
    refine x_flight (s := { s₁ with heap := h₃ }) a₃ fun h₄ x₄ a₄ => ?_
    have xx := x₂₃.trans x₄
    refine y.run _ env V₀ W₁ { s₁ with heap := h₄ } _ _ (rm.mark _) eo ((i₁.xch O (tk := s₁.toks) xx).mark _) (st₁.kq xx.kq) fun fl s₅ W₅ i₅ d₅ e₅ st₅ ou => ?_
    have dd := d₁.trans xx.dom
    exact h fl s₅ W₅ i₅.unmark (dd.trans d₅) ((xx.ext e₁).trans e₅ dd) st₅ ou
theorem ExT1.try_ {body : List Stmt} {h₀ : ExceptHandler} {hs : List ExceptHandler} {p : Pos} {o : Out} (y : ExT B k K Γ body o Γ') : ExT1 B k K Γ (.Try body (h₀ :: hs) [] [] p) o Γ' := .mk fun A env V₀ W s Q E rm eo i st tp h => by
  refine wpAny_Try_except (prog := B.prog) (w := B.w) (y.run A env V₀ W s _ _ rm eo i st tp fun fl s' W' i' d' e' st' ou => ?_)
  have hh := h fl s' W' i' d' e' st' ou
  cases o with
  | next => obtain rfl : fl = .next := ou; exact wpAny_execs_nil hh
  | brk => obtain rfl : fl = .brk := ou; exact hh
  | ret d => (refine byEA (ou) fun v hq10 _ => ?_; (try clear ou); subst hq10); exact hh
inductive WLoop (B : Base) (k : Nat) (K : Kinds) (body : List Stmt) : Nat → G → G → Prop
  | brk {X X₁ : G} : ExT B k K X body .brk X₁ → WLoop B k K body 0 X X₁
  | turn {n : Nat} {X X₁ X₂ : G} : ExT B k K X body .next X₁ → WLoop B k K body n X₁ X₂ → WLoop B k K body (n + 1) X X₂
theorem ExT1.whileTrue {test : Expr} {body : List Stmt} {p : Pos} {n : Nat} (w : WLoop B k K body n Γ Γ') (ht : ∀ X, EvT B k K X test true) : ExT1 B k K Γ (.While test body [] p) .next Γ' := .mk fun A env V₀ W s Q E rm eo i st tp h => by
  refine wpAny_While (codeAny_whileLoop (prog := B.prog) (w := B.w) (fun n s' => ∃ W' X, Inv B A s' ∧ Dom s.heap s'.heap ∧ Ext W s.heap W' s'.heap ∧ Stm B V₀ W' s'.heap env X ∧ WLoop B k K body n X Γ') ?_ n ⟨W, Γ, i, .refl _, .refl _ _, st, w⟩)
  rintro n s₁ ⟨W₁, X, i₁, d₁, e₁, st₁, w₁⟩
  refine (ht X).run A env _ s₁ _ _ rm eo i₁ st₁.r fun s₂ i₂ k₂ => ?_
  rw [if_pos rfl]
  have d₂ := d₁.trans k₂.dom
  have e₂ := e₁.trans (Ext.of_kp (W := W₁) k₂) d₁
  cases w₁ with
  | brk y =>
    refine y.run A env V₀ W₁ s₂ _ _ rm eo i₂ (st₁.kp k₂) tp fun fl s₃ W₃ i₃ d₃ e₃ st₃ ou => ?_
    obtain rfl : fl = .brk := ou
    exact h .next s₃ W₃ i₃ (d₂.trans d₃) (e₂.trans e₃ d₂) st₃ rfl
  | turn y w₂ =>
    refine y.run A env V₀ W₁ s₂ _ _ rm eo i₂ (st₁.kp k₂) tp fun fl s₃ W₃ i₃ d₃ e₃ st₃ ou => ?_
    obtain rfl : fl = .next := ou
    exact ⟨_, Nat.lt_succ_self _, W₃, _, i₃, d₂.trans d₃, e₂.trans e₃ d₂, st₃, w₂⟩
theorem Ex.top {ss : List Stmt} {o : Out} (x : ExT B k K Γ ss o Γ') (A : Around) (env : Env) (V₀ W : Addr → Prop) (s : Shared) (Q : Flow → Shared → Prop) (E : Value → Shared → Prop) (rm : Room k (A.deeper env)) (eo : EnvOk K env) (i : Inv B (A.deeper env) s) (st : Stm B V₀ W s.heap env Γ)
    (h : ∀ fl s' W', Inv B (A.deeper env) s' → Dom s.heap s'.heap → Ext W s.heap W' s'.heap → Stm B V₀ W' s'.heap env Γ' → OutIs B (fun b => V₀ b ∨ W' b) s'.heap o fl → Q fl s') : wpAny B.M (A.deeper env) (execs ss env) Q E s := by
  refine x.run _ env V₀ W s Q E rm eo i st ?_ h
  refine byEA (i.fr) fun l e _ => ?_
  have e' : A.frames.map (env :: ·) = some l := e
  refine byEA (Option.map_eq_some_iff.mp e') fun l' e1 e2 => ?_
  exact ⟨l', env.locals, by show A.frames.map (env :: ·) = _; rw [e1]; rfl, st.frame⟩
theorem Calls.ofT (O : B.Ok) {name : Str} {params : Arguments} {body : List Stmt} {scope : Scope} {ds ds' : List D} {xs : List Str} {o : Out} {Γ' : G} (F : FnAt B name params body scope) (hb : Binds B name params body scope ds xs ds') (hbrk : o ≠ .brk)
    (y : ExT B k (fun y => scope.names.lookup y) (putAll [] xs ds') body o Γ') (hl : xs.length = ds'.length := by rfl) (hx : ∀ x ∈ xs, scope.names.lookup x = some .local ∨ scope.names.lookup x = some .cell := by decide)
    (hk : scope.kind = .function := by rfl) (hco : scope.isCoroutine = false := by rfl) (hgen : scope.isGenerator = false := by rfl) : Calls B (k + 1) name ds o.val := fun A V s vs Q E rm i dm ls h => by
  (refine byEE (F) fun a pm hr11 => ?_; (try clear F); refine byEEA (hr11) fun cd doc hm hh => ?_; (try clear hr11))
  refine ⟨a, hm, wpAny_call ?_⟩
  (refine byA (hh _ i.good) fun hp12 hcd => ?_; obtain ⟨ob, hob, hod⟩ := hp12)
  refine codeAny_call_function (body := body) (fd := docDef name params body scope pm cd doc) (prog := B.prog) (w := B.w) (by have := rm.depth; show A.depth < 1000; omega) hob hod hco hgen rfl hcd ?_
  refine hb pm cd doc A.in1 V s vs _ _ i.in1 dm ls fun vs' s₁ i₁ k₁ l₁ => ?_
  refine fn_frame O hk i₁ (fun b hb' => let ⟨o', e, n⟩ := dm b hb'; (k₁ b o' e).q.ex n) l₁ hl hx fun env s₂ W he i₂ k₂ wn eo st => ⟨O.nolimit _ i₂.good, ?_⟩
  have i₃ : Inv B (A.deeper env) s₂ := Inv.deeper i₂.of_in1 eo st
  refine codeAny_func (prog := B.prog) (w := B.w) (Ex.top y A env V W s₂ _ _ (rm.deeper env) eo i₃ st fun fl s₄ W₄ i₄ d₄ e₄ st₄ ou => ?_)
  have kk : Kp s.heap s₄.heap := (k₁.trans k₂).trans_off e₄.kp fun b o e q => by
    cases e1 : s₁.heap.get? b with
    | none => refine byE ((k₁ b o e).ex) fun _ z => ?_; rw [e1] at z; cases z
    | some _ => rw [wn b q] at e1; cases e1
  cases o with
  | next =>
    obtain rfl : fl = .next := ou
    exact h .none s₄ i₄.shallow kk rfl
  | brk => exact absurd rfl hbrk
  | ret d =>
    (refine byEA (ou) fun v hq13 lv => ?_; (try clear ou); subst hq13)
    exact h v s₄ i₄.shallow kk (lv.mono fun b o nb e _ => ⟨fun q => nb (.inl q), e⟩)
theorem ExT1.whileEx {test : Expr} {body : List Stmt} {p : Pos} (w : ∃ n, WLoop B k K body n Γ Γ') (ht : ∀ X, EvT B k K X test true) : ExT1 B k K Γ (.While test body [] p) .next Γ' := let ⟨_, w⟩ := w; .whileTrue w ht
theorem lkNil : ∀ y s, ([] : G).lookup y = some s → Γ.lookup y = some s := fun y s h => by cases h
theorem lkCons {Γ₂ : G} {x : Str} {sl : Slot} (h : Γ.lookup x = some sl) (t : ∀ y s, Γ₂.lookup y = some s → Γ.lookup y = some s) : ∀ y s, ((x, sl) :: Γ₂ : G).lookup y = some s → Γ.lookup y = some s := fun y s e => by
  simp only [List.lookup] at e
  split at e
  · rename_i he; rw [beq_iff_eq.mp he, h]; exact e
  · exact t y s e
end
end Jv
namespace Jv
open PySem PySem.W PySem.Calls PyProof.Rows
open PySem.SeqAt (EqAt RcAt RcNeAt)
section
variable {B : Base} {k : Nat} {K : Kinds} {Γ Γ' : G} {V V' W : Addr → Prop} {h h' : Heap} {env : Env} {A : Around} {s : Shared}
theorem tup_core {l l' : List D} {i i' : Array Value} (x : Lays B V s.heap l i.toList) (y : Lays B V' s.heap l' i'.toList) (eq : EqsAt A.in1 s l l' i.toList i'.toList) :
    ∃ e : Nat → Bool, (((List.range (min i.size i'.size)).all e && i.size == i'.size) = true ↔ l = l') ∧ ∀ j (h1 : j < i.size) (h2 : j < i'.size), EqAt A.in1 s i[j] i'[j] (e j) := by
  have z1 : i.size = l.length := by rw [← x.length]; simp
  have z2 : i'.size = l'.length := by rw [← y.length]; simp
  refine byE eq fun e he => ?_
  have lk : ∀ j (h1 : j < i.size) (h2 : j < i'.size), ∃ d d', l[j]? = some d ∧ l'[j]? = some d' ∧ i.toList[j]? = some i[j] ∧ i'.toList[j]? = some i'[j] := fun j h1 h2 =>
    ⟨l[j]'(z1 ▸ h1), l'[j]'(z2 ▸ h2), List.getElem?_eq_getElem _, List.getElem?_eq_getElem _, List.getElem?_eq_getElem h1, List.getElem?_eq_getElem h2⟩
  refine ⟨e, ?_, fun j h1 h2 => ?_⟩
  · rw [Bool.and_eq_true, List.all_eq_true, beq_iff_eq]
    constructor
    · intro ⟨hall, hsz⟩
      apply List.ext_getElem?
      intro j
      by_cases hj : j < i.size
      · refine byEEAAA (lk j hj (hsz ▸ hj)) fun d d' e1 e2 e3 e4 => ?_
        rw [e1, e2, ((he j _ _ d d' e1 e2 e3 e4).1.mp (hall j (List.mem_range.mpr (by rw [← hsz, Nat.min_self]; exact hj))))]
      · rw [List.getElem?_eq_none (z1 ▸ Nat.not_lt.mp hj), List.getElem?_eq_none (by rw [← z2, ← hsz]; exact Nat.not_lt.mp hj)]
    · intro hll
      refine ⟨fun j hj => ?_, by rw [z1, z2, hll]⟩
      have hj := List.mem_range.mp hj
      refine byEEAAA (lk j (Nat.lt_of_lt_of_le hj (Nat.min_le_left _ _)) (Nat.lt_of_lt_of_le hj (Nat.min_le_right _ _))) fun d d' e1 e2 e3 e4 => ?_
      refine (he j _ _ d d' e1 e2 e3 e4).1.mpr ?_
      rw [hll, e2] at e1; injection e1 with e1; exact e1.symm
  · refine byEEAAA (lk j h1 h2) fun d d' e1 e2 e3 e4 => ?_
    exact (he j _ _ d d' e1 e2 e3 e4).2
theorem CmpR.ne_tup {l l' : List D} {b : Bool} (hs : sims l l' = true) (hb : b = true ↔ l ≠ l') (hd : deps l < 50) : CmpR B k .NotEq (.tup l) (.tup l') b := fun A V s v₁ v₂ Q E r i dm x y h => by
  refine byEEA x.asTup fun a it hq hr => ?_
  subst hq
  refine byA hr fun p q => ?_
  refine byEEA y.asTup fun a' it' hq' hr' => ?_
  subst hq'
  refine byA hr' fun p' q' => ?_
  have hu := r.units
  refine byEA (tup_core q q' (eqsAt (A := A.in1) hs q q' (by show A.units + 1 + deps l < 9900; omega))) fun e hall he => ?_
  have hh := h s i (.refl _)
  rw [same_bool hb (c := !((List.range (min it.size it'.size)).all e && it.size == it'.size)) (by rw [Bool.not_eq_true', Bool.eq_false_iff]; exact not_congr hall)] at hh
  exact RcNeAt.tuples p.isTuple p'.isTuple (show A.units < 9900 by omega) he B.prog B.w E Q hh
theorem CmpR.in_tup {l : List D} {d : D} {b : Bool} (hi : isImm d = true) (hs : l.all (fun z => sim z d) = true) (hb : b = true ↔ d ∈ l) (hd : deps l < 50) : CmpR B k .In d (.tup l) b := fun A V s v₁ v₂ Q E r i dm x y h => by
  refine byEEA y.asTup fun a it hq hr => ?_
  subst hq
  refine byA hr fun p q => ?_
  have hu := r.units
  refine byEA (in_core (A := A.in1) hs q (x.imm hi) (by show A.units + 1 + deps l < 9900; omega)) fun e he ha => ?_
  have hh := h s i (.refl _)
  rw [same_bool hb ha] at hh
  exact PySem.SeqAt.in_tupleAt e p.isTuple (fun w hw => he w (Array.mem_toList_iff.mpr hw)) (by rw [← Array.any_toList]; exact hh)
theorem CmpR.ne_bool {a b : Bool} : CmpR B k .NotEq (.bool a) (.bool b) (!(a == b)) := fun A V s v₁ v₂ Q E r i dm x y h => by
  have x := x.imm rfl; have y := y.imm rfl
  simp only [Lay] at x y
  rw [x, y]
  exact RcNeAt.bool_bool a b B.prog B.w E Q (h s i (.refl _))
end
end Jv
namespace Jv
open PySem PySem.W PySem.Calls PyProof.Rows
open PySem.SeqAt (EqAt RcAt RcNeAt)
section
variable {prog : Program} {w : World} {A : Around} {E : Value → Shared → Prop} {s : Shared}
theorem iadd_lists {l b : Addr} {items items2 : Array Value} {n n2 : Nat} {Q : Value → Shared → Prop} (hl : s.heap.get? l = some { cls := .type "list", dict := none, data := .seq items n, slots := #[] }) (hb : s.heap.get? b = some { cls := .type "list", dict := none, data := .seq items2 n2, slots := #[] })
    (hz : items.size + items2.size ≤ sizeLine) (h : Q (.ref l) { s with heap := s.heap.update l (Obj.mapSeq fun x => x ++ items2) }) : wpAny (model prog w) A (inplaceOp .Add (.ref l) (.ref b)) Q E s := by
  have big : sizeLine = 16777216 := rfl
  have ha : s.TypeIs (.ref l) "list" := ⟨_, hl, rfl⟩
  have hb' : s.TypeIs (.ref b) "list" := ⟨_, hb, rfl⟩
  unfold inplaceOp
  refine wpAny_holding ?_
  have hlk := PySem.F.slot_list_iadd.lookup
  have hsq : isSeqSlot (some (Value.builtin "list.__iadd__")) = true := by decide +kernel
  have hfi : fillsInplaceSlot (.type "list") "add" (Operator.Add == .Add) = pure false := by
    unfold fillsInplaceSlot
    show (typeLookup (.type "list") (dunderI "add") >>= fun fi => pure (fi.isSome && !isSeqSlot fi)) = pure false
    rw [hlk, pure_bind, hsq]; rfl
  have hsi : seqSlot? (.type "list") (dunderI "add") = pure (some (.builtin "list.__iadd__")) := PySem.seqSlot_of hlk hsq
  refine wpAny_bind (wpAny_typeOf ha (wpAny_bind (wpAny_of_eq hfi ?_)))
  show wpAny _ A (if false = true then _ else _) Q E s
  rw [if_neg Bool.false_ne_true]
  refine wpAny_bind (wpAny_binaryOp1_none (nm := "add") ha hb' noFill_list_add ?_)
  refine wpAny_bind (wpAny_of_eq hsi ?_)
  refine wpAny_bind (wpAny_rule ?_)
  refine call_meets PySem.F.slot_list_iadd ha PySem.F.entry_list_iadd (PySem.F.args_list_iadd_2 _ _) (PySem.AutoSeq1.list___iadd___list_list_0 l items n b items2 n2 (by
    have : Builtin.List.listTooLong (items.size + items2.size) = false := by
      unfold Builtin.List.listTooLong
      simp
      omega
    simp [this]) (by omega) (by omega)) ⟨hl, hb, ?_⟩
  exact h
end
section
variable {B : Base} {k : Nat} {K : Kinds} {Γ Γ' : G} {V V' V₀ W : Addr → Prop} {h h' : Heap} {env : Env} {A : Around} {s : Shared}
theorem Ex1.augList (O : B.Ok) {x : Str} {p' p : Pos} {e : Expr} {a? : Option Addr} {l l₂ : List D} (hx : Γ.lookup x = some (.own a? (.list l))) (y : Ev B k K Γ e (.list l₂)) (hk : K x = some .local ∨ K x = some .cell) (hz : l.length + l₂.length ≤ sizeLine)
    (h2 : (x == ("__classdict__" : Str)) = false := by decide) : Ex1 B k K Γ (.AugAssign (.Name x p') .Add e p) .next (put (put Γ x (.own a? (.list (l ++ l₂)))) x (.own a? (.list (l ++ l₂)))) := .mk fun A env V₀ W s Q E rm eo i st h => by
  refine byEAEAAA (st.r.vars x _ hx) fun vx lx a ea hf hV hc => ?_
  subst ea
  refine byEAA (st.own x _ _ _ hx lx) fun a' e' wa nv => ?_
  cases e'
  refine wpAny_AugAssign_Name (loadName_looks eo lx h2 (y.run A env _ s _ E rm eo i st.r fun v' s₁ i₁ k₁ l₁ => ?_))
  have st₁ := st.kp k₁
  have hc₁ := hc.kp k₁
  refine byEA hc₁ fun its hp ll => ?_
  simp only [Lay] at l₁
  refine byEA l₁ fun b hq hr => ?_
  subst hq
  refine byA hr fun nb hr => ?_
  refine byEA hr fun its₂ hp₂ ll₂ => ?_
  refine byE (id hp) fun n ho => ?_
  refine byE (id hp₂) fun n₂ ho₂ => ?_
  have z1 : its.size = l.length := by rw [← ll.length]; simp
  have z2 : its₂.size = l₂.length := by rw [← ll₂.length]; simp
  refine iadd_lists ho ho₂ (by rw [z1, z2]; exact hz) ?_
  refine byAA (mut_list O i₁ (l' := l ++ l₂) hV (st.hi a wa) hp (Heap.SameBut.update ..) (plain_update (fun x => x ++ its₂) ho) (by rw [Array.toList_append]; exact ll.append ll₂) s₁.toks) fun i' k' c' => ?_
  obtain ⟨st₂, _, fwd⟩ := st₁.mut hx (lx.kp k₁) k' c'
  obtain ⟨o, eo', _⟩ := c'.isData
  have lx2 : Looks _ env x (.ref a) := fwd x _ (lx.kp k₁)
  refine store_stm (x := x) (v := .ref a) (sl := .own a? (.list (l ++ l₂))) O eo hk i' st₂ ⟨a, rfl, hf, hV, c'⟩ (fun a?' d' e => ?_) fun s₃ i₃ d₃ e₃ st₃ => ?_
  · cases e
    refine ⟨⟨a, rfl, wa, nv⟩, fun y a?'' d'' v hy hl ly q => ?_⟩
    subst q
    exact hy (st₂.apo y x _ _ _ _ _ hl (show (put Γ x (.own a? (.list (l ++ l₂)))).lookup x = some (.own a? (.list (l ++ l₂))) by rw [put_look]; simp) ly lx2)
  · exact h .next s₃ W i₃ ((k₁.dom.trans (k'.dom ⟨o, eo'⟩)).trans d₃) (Ext.trans ⟨fun _ q => .inl q, KpOff.trans' (k₁.off _) (k'.off wa)⟩ e₃ (k₁.dom.trans (k'.dom ⟨o, eo'⟩))) st₃ rfl
theorem Meth.indexL : Meth "list" "index" "list.index" := ⟨PySem.F.plainAttrs_list, PySem.F.slot_list_index, PySem.F.type_list_index⟩
theorem BltR.indexL {l : List D} {d : D} {j : Nat} (hi : isImm d = true) (hs : l.all (fun z => sim z d) = true) (hd : deps l < 50) (hj : l[j]? = some d) (hn : ∀ m, m < j → l[m]? ≠ some d) (hz : j < 100000) : BltR B k (.builtin "list.index") [.list l, d] (.int j) := fun A V s vs Q E rm i dm ls h => by
  refine byEEA ls.two fun v w hq hr => ?_
  subst hq
  refine byA hr fun x y => ?_
  refine byEEA x.asList fun a it hq2 hr2 => ?_
  subst hq2
  refine byA hr2 fun p q => ?_
  refine byE (id p) fun n ho => ?_
  have hu := rm.units
  have ly := y.imm hi
  have z1 : it.size = l.length := by rw [← q.length]; simp
  have hjl : j < l.length := (List.getElem?_eq_some_iff.mp hj).1
  have at_ : ∀ m (hm : m < it.size), Lay B V s.heap (l[m]'(z1 ▸ hm)) it[m] := fun m hm => by
    refine byEA (q.get (List.getElem?_eq_getElem (z1 ▸ hm))) fun w' e' lw => ?_
    rw [Array.getElem?_toList, Array.getElem?_eq_getElem hm] at e'
    cases e'; exact lw
  classical
  have key : ∀ m (hm : m < it.size), (decide (Lay B V s.heap d it[m]) = true ↔ l[m]'(z1 ▸ hm) = d) ∧ EqAt A.in1 s it[m] w (decide (Lay B V s.heap d it[m])) := fun m hm => by
    have hml : l[m]'(z1 ▸ hm) ∈ l := List.getElem_mem _
    have hz := List.all_eq_true.mp hs _ hml
    have hdm := dep_mem hml
    refine byEA (eqAt (A := A.in1) hz (at_ m hm) ly (by show A.units + 1 + dep _ < 9900; omega)) fun c hc ec => ?_
    have hi : decide (Lay B V s.heap d it[m]) = true ↔ l[m]'(z1 ▸ hm) = d := by
      rw [decide_eq_true_iff]
      exact ⟨fun q => Lay.det hz (at_ m hm) q, fun q => q ▸ at_ m hm⟩
    exact ⟨hi, same_bool hi hc ▸ ec⟩
  have hji : j < it.size := z1 ▸ hjl
  refine call_meets PySem.F.slot_list_index ⟨_, ho, rfl⟩ PySem.F.entry_list_index (PySem.F.args_list_index_2 _ _) (PySem.SeqAt.list_indexAt a it n none #[] w (fun w => decide (Lay B V s.heap d w)) j hji (by omega) ((key j hji).1.mpr (by
    rw [List.getElem?_eq_getElem hjl] at hj; injection hj)) fun m hm hmj => Bool.eq_false_iff.mpr fun q => hn m hmj (by rw [List.getElem?_eq_getElem (z1 ▸ hm), (key m hm).1.mp q])) ⟨ho, fun y hy => ?_, ?_⟩
  · refine byE (List.mem_iff_getElem.mp (Array.mem_toList_iff.mpr hy)) fun m hr => ?_
    refine byE hr fun hm e => ?_
    subst e
    exact (key m hm).2
  · exact h _ _ (i.tok _) (.refl _) ⟨_, rfl⟩
theorem Meth.index : Meth "str" "index" "str.index" := ⟨PySem.F.plainAttrs_str, PySem.F.slot_str_index, PySem.F.type_str_index⟩
theorem BltR.index {x y : Str} {j : Nat} (ho : ∃ r, Builtin.Str.occurrences x y 0 x.length 1 = j :: r) : BltR B k (.builtin "str.index") [.str x, .str y] (.int j) := fun A V s vs Q E rm i dm ls h => by
  refine byEEA ls.two fun v w hq hr => ?_
  subst hq
  refine byA hr fun a b => ?_
  refine byE a.asStr fun t hq => ?_
  subst hq
  refine byE b.asStr fun u hq => ?_
  subst hq
  refine byE ho fun r ho => ?_
  exact PySem.SC.index ho (h _ _ (i.tok _) (.refl _) ⟨_, rfl⟩)
end
end Jv
namespace Jv
open PySem PySem.W PySem.Calls PyProof.Rows
theorem str_int : typeLookup (.type "str") "__int__" = pure none := by rw [typeLookup_type, builtinLookup_eq_fast]; kernel_rfl
theorem str_idx : typeLookup (.type "str") "__index__" = pure none := by rw [typeLookup_type, builtinLookup_eq_fast]; kernel_rfl
theorem str_trunc : typeLookup (.type "str") "__trunc__" = pure none := by rw [typeLookup_type, builtinLookup_eq_fast]; kernel_rfl
noncomputable def seenOf (x : Str) : List Nat := if (x.cps.all fun x => decide (x < 128)) = true then x.cps.toList else Unicode.numberText x.cps.toList
structure Dig (x : Str) (n : Int) : Prop where
  hs : ((seenOf x).takeWhile (fun x => x != 0)).length ≤ 640
  hr : (int_private% "readNumeral") 0 10 ((seenOf x).takeWhile (fun x => x != 0)) = (int_private% "Numeral.value") n
  ha : (((seenOf x).takeWhile (fun x => x != 0)).length == (seenOf x).length) = true
theorem dig_walk {x : Str} {u : Tok} {n : Int} (D : Dig x n) : Gives (Builtin.«int.__new__» ⟨[.type "int", .str x u], []⟩) (.int n) :=
  .of_wp fun M A E s Q h => by
    obtain ⟨hp, g, d, tk, os⟩ := s
    have f1 := F.conv_sub_int
    have f2 := F.madeHere_int
    have f3 := str_int
    have f4 := str_idx
    have f5 := str_trunc
    have f6 : typeOf (.str x u) = pure (.type "str") := rfl
    repeat (any_goals (first
      | assumption
      | wp_step))
    refine wpAny_ite_true (decide_eq_true D.hs) ?_
    refine wpAny_bind (wpAny_pure ?_)
    have hr := D.hr
    unfold seenOf at hr
    dsimp only
    rw [hr]
    dsimp only
    refine wpAny_ite_true (decide_eq_true D.ha) ?_
    exact wpAny_mkInt (wpAny_pure ⟨_, rfl, h⟩)
theorem dig_of {d : Nat} (h : d < 5) : Dig ⟨#[48 + d]⟩ d := by
  match d, h with
  | 0, _ => exact ⟨by decide +kernel, by kernel_rfl, by decide +kernel⟩
  | 1, _ => exact ⟨by decide +kernel, by kernel_rfl, by decide +kernel⟩
  | 2, _ => exact ⟨by decide +kernel, by kernel_rfl, by decide +kernel⟩
  | 3, _ => exact ⟨by decide +kernel, by kernel_rfl, by decide +kernel⟩
  | 4, _ => exact ⟨by decide +kernel, by kernel_rfl, by decide +kernel⟩
section
variable {B : Base} {k : Nat} {K : Kinds} {Γ Γ' : G} {V V' V₀ W : Addr → Prop} {h h' : Heap} {env : Env} {A : Around} {s : Shared}
theorem BltR.intDig {d : Nat} (hd : d < 5) : BltR B k (.type "int") [.str ⟨#[48 + d]⟩] (.int d) := fun A V s vs Q E rm i dm ls h => by
  refine byEA ls.one fun v hq x => ?_
  subst hq
  refine byE x.asStr fun t hq => ?_
  subst hq
  exact call_int_1 (dig_walk (dig_of hd)).meets (show (Made.int d).post _ s from ⟨rfl, h _ _ (i.tok _) (.refl _) ⟨_, rfl⟩⟩)
theorem Ev.lenSet (O : B.Ok) {e : Expr} {p1 p2 p3 p4 : Pos} {l : List Int} {n : Nat} (bl : BltAt B "len" (.builtin "len")) (bs : BltAt B "set" (.type "set")) (hK1 : K "len" = some .globalImplicit) (hK2 : K "set" = some .globalImplicit) (x : EvB B (k + 1) K Γ e (.list (il l))) (hz : l.length < 4000)
    (hn : (firstMet (fun i => l.getD i 0) l.length).length = n) (hs : noStars [e] = true := by rfl) (ht : notStar e = true := by rfl) :
    Ev B (k + 1) K Γ (.Call (.Name "len" p1) [.Call (.Name "set" p2) [e] [] p3] [] p4) (.int n) := .mk fun A env V s Q E rm eo i g h =>
  Call_ (glob_blt O bl hK1 eo i (callWith_blt (f := .builtin "len") (by rfl) (by rfl) (by
    rw [starEach_cons rfl, starEach_nil]
    refine Calls.spliced_cons (Call_ (glob_blt O bs hK2 eo i (callWith_blt (f := .type "set") (by rfl) hs ((EvLB.cons x .nil ht).run p3 A env V s _ E rm eo i g fun vs s₁ i₁ k₁ l₁ => ?_)) (by decide)))
    refine byEA l₁.one fun v hq y => ?_
    subst hq
    refine byEEA y.asList fun a it hq2 hr => ?_
    subst hq2
    refine byA hr fun p q => ?_
    have hi := intsAre_of q
    have z1 : it.size = l.length := by rw [show it.size = it.toList.length from rfl, hi.length]
    refine call_set_list (ns := l) (rm.handled (Nat.succ_pos _)) p.isList hi (by rw [z1]; unfold scanBound; omega) fun h' tk hS hk => ?_
    rw [z1, hn] at hS
    have kp : ∀ b o, s₁.heap.get? b = some o → h'.get? b = some o := fun b o e => hk b o (Heap.lt_size e) e
    have i₂ : Inv B A { s₁ with heap := h', toks := tk } := i₁.keep O (tk := tk) kp
    obtain ⟨o, es, ep, t, ho, hex, hd, _, _, hb, hf, hsz⟩ := hS
    refine Calls.spliced_nil ?_
    refine call_len_set (s := { s₁ with heap := h', toks := tk }) ho hex hd hf (by rw [hsz]; unfold scanBound at hb; omega) ?_
    rw [hsz]
    exact h _ _ ((i₂.tok _).tok _) (k₁.trans (.of kp)) ⟨_, rfl⟩)) (by decide))
end
end Jv
namespace Jv
open PySem PySem.W PySem.Calls PyProof.Rows
universe u0 u1 u2
theorem byEEEA {α0 : Sort u0} {α1 : Sort u1} {α2 : Sort u2} {p q : α0 → α1 → α2 → Prop} {c : Prop} (h : ∃ x y z, p x y z ∧ q x y z) (k : ∀ x y z, p x y z → q x y z → c) : c := h.elim fun a h => h.elim fun b h => h.elim fun d h => k a b d h.1 h.2
section
variable {M : Model} {A : Around} {E : Value → Shared → Prop} {s : Shared} {α : Type}
noncomputable def txtOf : Value → Str
  | .str x _ => x
  | _ => ""
theorem wp_chooseN {n : Nat} {src : Source} {Q : Nat → Shared → Prop} (hn : n ≠ 0) (h : ∀ i d, i < n → Q i { s with drawn := d }) : wpAny M A (choose src n) Q E s := fun Γ p _ => by
  unfold choose
  rw [PySem.Sem.wp_choose]
  exact ⟨hn, h _ _ (Nat.mod_lt _ (Nat.pos_of_ne_zero hn))⟩
theorem erase_perm : ∀ (l : List α) (i : Nat) (x : α), l[i]? = some x → (x :: l.eraseIdx i).Perm l
  | [], i, x, h => by simp at h
  | y :: l, 0, x, h => by simp at h; subst h; exact .refl _
  | y :: l, i + 1, x, h => by
    rw [List.eraseIdx_cons_succ]
    exact (List.Perm.swap y x _).trans (.cons y (erase_perm l i x (by simpa using h)))
theorem wp_drawOrder : ∀ (n : Nat) (l : List α) {s : Shared} {Q : List α → Shared → Prop}, l.length = n → (∀ r d, r.Perm l → Q r { s with drawn := d }) → wpAny M A (drawOrder n l) Q E s
  | 0, l, s, Q, hl, h => by
    cases l with
    | nil => exact wpAny_pure (h [] s.drawn (.refl _))
    | cons => simp at hl
  | n + 1, [], s, Q, hl, h => by simp at hl
  | n + 1, y :: l, s, Q, hl, h => by
    unfold drawOrder
    refine wpAny_bind (wp_chooseN (by simp) fun i d hi => ?_)
    rw [List.getElem?_eq_getElem hi]
    refine wpAny_bind (wp_drawOrder n _ (by rw [List.length_eraseIdx, if_pos hi, hl]; rfl) fun r d' hp => ?_)
    exact wpAny_pure (h _ _ ((hp.cons _).trans (erase_perm _ i _ (List.getElem?_eq_getElem hi))))
end
theorem relay_plain {t : SetTable} {es : Array (Int × Value)} {n : Nat} (h : t.plain = false) : (relayAll t es n).2.1.plain = false := by
  unfold relayAll
  cases e : t.relaid (es.map (·.1)) n with
  | none => rfl
  | some q =>
    obtain ⟨t', order⟩ := q
    have hp : t'.plain = false := by
      unfold SetTable.relaid SetTable.laid at e
      rw [Option.bind_eq_bind, Option.bind_eq_some_iff] at e
      refine byEA e fun o _ e => ?_
      injection e with e
      injection e with e _
      rw [← e]; exact h
    show (if _ then (_, t', false) else _).2.1.plain = false
    split
    · exact hp
    · rfl
section
variable {prog : Program} {w : World} {A : Around} {E : Value → Shared → Prop} {s : Shared}
noncomputable def SSet (prog : Program) (w : World) (h : Heap) (a : Addr) (l : List Str) : Prop :=
  ∃ es ep t, h.get? a = some { cls := .type "set", dict := none, data := .set es ep t, slots := #[] } ∧ ElemsOf (PySem.strKind prog w) es.toList ∧ List.Perm (es.toList.map (txtOf ·.2)) l ∧ es.size < scanBound ∧ t.fits es.size = true ∧ (0 < es.size → t.plain = false)
theorem elem_txt {e : Int × Value} {x : Str} (h : (PySem.strKind prog w).is x e.2 = true) : txtOf e.2 = x := by
  obtain ⟨_, v⟩ := e
  cases v <;> simp [PySem.strKind, Value.isStrOf, txtOf] at h ⊢
  exact h
theorem elem_is {l : List (Int × Value)} (h : ElemsOf (PySem.strKind prog w) l) {e : Int × Value} (m : e ∈ l) (x : Str) : (PySem.strKind prog w).is x e.2 = (txtOf e.2 == x) := by
  have q := (h e m).1
  refine byEA q fun y hy _ => ?_
  rw [elem_txt hy, KeyKind.is_eq_decide hy x]
  exact Bool.eq_iff_iff.mpr (by rw [decide_eq_true_iff, beq_iff_eq]; exact ⟨Eq.symm, Eq.symm⟩)
theorem sset_add {a : Addr} {l l' : List Str} {x : Str} {tk : Tok} {Q : Bool → Shared → Prop} (hS : SSet prog w s.heap a l) (hz : l.length + 1 < scanBound) (hl' : l'.Perm (if l.contains x then l else l ++ [x]))
    (h : ∀ b h', Heap.SameBut a s.heap h' → SSet prog w h' a l' → Q b { s with heap := h' }) : wpAny (model prog w) A (setAddHashed a (.str x tk) ((PySem.strKind prog w).hash x)) Q E s := by
  refine byEEEA hS fun es ep t ho hr => ?_
  refine byAAAA hr fun hel hp hb hf hpl => ?_
  have hkey : (PySem.strKind prog w).is x (.str x tk) = true := strKind_is _ _ _ _
  have hsz : es.size = l.length := by rw [← hp.length_eq]; simp
  have hb1 : es.size + 1 < scanBound := by rw [hsz]; exact hz
  unfold setAddHashed setAddHashedIn
  refine wpAny_holding (wpAny_bind (wpAny_setState_of ho rfl hf ?_))
  dsimp only
  rw [byScan_of rfl hb hel, if_pos rfl]
  unfold setAddByScan
  refine wpAny_bind ?_
  refine wpAny_bind (PySem.wpAny_rule ?_)
  refine wpAny_bind (wpAny_setScan_of (knd := PySem.strKind prog w) hkey ho rfl hf hel ?_)
  cases hr : List.findIdx? (fun e => (PySem.strKind prog w).is x e.2) es.toList with
  | some j =>
    dsimp only
    have hc : l.contains x = true := by
      refine byEA (List.findIdx?_eq_some_iff_getElem.mp hr) fun hj hpj _ => ?_
      rw [List.contains_iff_mem, ← hp.mem_iff]
      exact List.mem_map.mpr ⟨_, List.getElem_mem hj, elem_txt hpj⟩
    rw [if_pos hc] at hl'
    exact wpAny_pure (wpAny_pure (h _ s.heap (Heap.SameBut.refl a s.heap) ⟨es, ep, t, ho, hel, hp.trans hl'.symm, hb, hf, hpl⟩))
  | none =>
    dsimp only
    have hc : ¬ l.contains x = true := by
      rw [List.contains_iff_mem, ← hp.mem_iff]
      intro m
      refine byEA (List.mem_map.mp m) fun e me ee => ?_
      have := List.findIdx?_eq_none_iff.mp hr e me
      rw [elem_is hel me, ee, beq_self_eq_true] at this
      cases this
    rw [if_neg hc] at hl'
    have hgw : ∀ (b : Bool) {s₁ : Shared} {Q' : Unit → Shared → Prop}, Q' () s₁ → wpAny (model prog w) A (match b with | true => rule "set.scan.the-table-gave-way" | false => pure ()) Q' E s₁ :=
      fun b s₁ Q' hq => by cases b <;> first | exact wpAny_pure hq | exact PySem.wpAny_rule hq
    have hperm := layNew_perm t es ((PySem.strKind prog w).hash x) (.str x tk)
    have hfits := layNew_fits t es ((PySem.strKind prog w).hash x) (.str x tk)
    generalize layNew t es ((PySem.strKind prog w).hash x) (.str x tk) = L at hperm hfits ⊢
    obtain ⟨es1, t1, wd, gave⟩ := L
    dsimp only at hperm hfits ⊢
    rw [Array.toList_push] at hperm
    have hel1 : ElemsOf (PySem.strKind prog w) es1.toList := (hel.push hkey rfl).perm hperm
    have hp1 : List.Perm (es1.toList.map (txtOf ·.2)) l' := ((hperm.map _).trans (List.map_append ▸ hp.append_right _)).trans hl'.symm
    have hz1 : es1.size = es.size + 1 := by rw [← Array.length_toList, hperm.length_eq]; simp
    have fin : ∀ (g : Bool → Sem Unit) (hgw : ∀ (b : Bool) {s₁ : Shared} {Q' : Unit → Shared → Prop}, Q' () s₁ → wpAny (model prog w) A (g b) Q' E s₁) (t2 : SetTable), t2.fits es1.size = true → t2.plain = false → wpAny (model prog w) A (do
        storeSet a es1 t2
        if (!wd && t2.tooFull) = true then do
            g (relayAll t2 es1 (SetTable.grown es1.size)).2.2
            storeSet a (relayAll t2 es1 (SetTable.grown es1.size)).1 (relayAll t2 es1 (SetTable.grown es1.size)).2.1
            pure (some true)
          else pure (some true)) (fun r s' => wpAny (model prog w) A (match r with | some added => pure added | none => setAddHashedIn a (.str x tk) ((PySem.strKind prog w).hash x) 99999) Q E s') E s := fun g hgw t2 f2 p2 => by
      refine wpAny_bind (wpAny_storeSet_of ho rfl ?_ (fits_of_scanBound (hz1 ▸ hb1)))
      have ho1 := (SetOf_store (knd := PySem.strKind prog w) (S' := fun k' => es1.toList.any fun e => (PySem.strKind prog w).is k' e.2) ho ⟨rfl, rfl, rfl⟩ rfl hel1 (fun k' => List.any_eq_true) (hz1 ▸ hb1) f2).1
      have hsb1 := Heap.SameBut.update s.heap a (Obj.putSet es1 t2)
      split
      · have hp2 := relayAll_perm t2 es1 (SetTable.grown es1.size)
        have hf2 := relayAll_fits t2 es1 (SetTable.grown es1.size)
        have hq2 := relay_plain (es := es1) (n := SetTable.grown es1.size) p2
        generalize relayAll t2 es1 (SetTable.grown es1.size) = R at hp2 hf2 hq2 ⊢
        obtain ⟨es2, t3, gave2⟩ := R
        dsimp only at hp2 hf2 hq2 ⊢
        have hz2 : es2.size = es1.size := by rw [← Array.length_toList, hp2.length_eq, Array.length_toList]
        refine wpAny_bind (hgw _ ?_)
        refine wpAny_bind (wpAny_storeSet_of ho1 rfl ?_ (fits_of_scanBound (hz2 ▸ hz1 ▸ hb1)))
        have ho2 := (SetOf_store (knd := PySem.strKind prog w) (es' := es2) (t' := t3) (S' := fun k' => es2.toList.any fun e => (PySem.strKind prog w).is k' e.2) ho1 ⟨rfl, rfl, rfl⟩ rfl (hel1.perm hp2) (fun k' => List.any_eq_true) (hz2 ▸ hz1 ▸ hb1) hf2).1
        exact wpAny_pure (wpAny_pure (h _ _ (hsb1.trans (Heap.SameBut.update _ a _)) ⟨es2, _, t3, ho2, hel1.perm hp2, (hp2.map _).trans hp1, hz2 ▸ hz1 ▸ hb1, hf2, fun _ => hq2⟩))
      · exact wpAny_pure (wpAny_pure (h _ _ hsb1 ⟨es1, _, t2, ho1, hel1, hp1, hz1 ▸ hb1, f2, fun _ => p2⟩))
    refine wpAny_bind (hgw _ ?_)
    cases hpt : t1.plain with
    | true =>
      refine wpAny_bind ?_
      rw [hashByValue_scannable 8 (x := .str x tk) rfl]
      refine wpAny_pure ?_
      exact fin _ (fun b s₁ Q' hq => by cases b <;> first | exact wpAny_pure hq | exact PySem.wpAny_rule hq) { t1 with plain := false } (SetTable.fits_plain_off hfits) rfl
    | false =>
      refine wpAny_bind (wpAny_pure ?_)
      exact fin _ (fun b s₁ Q' hq => by cases b <;> first | exact wpAny_pure hq | exact PySem.wpAny_rule hq) t1 hfits hpt
end
end Jv
namespace Jv
open PySem PySem.W PySem.Calls PyProof.Rows
noncomputable def addS (l : List Str) (x : Str) : List Str := if l.contains x then l else l ++ [x]
noncomputable def dedS (l : List Str) : List Str := l.foldl addS []
noncomputable def metS (l : List Str) (i : Nat) : List Str := dedS (l.take i)
theorem metS_succ {l : List Str} {i : Nat} {x : Str} (h : l[i]? = some x) : metS l (i + 1) = addS (metS l i) x := by
  unfold metS dedS
  rw [List.take_add_one, h, List.foldl_append]; rfl
theorem addS_len (l : List Str) (x : Str) : (addS l x).length ≤ l.length + 1 := by
  unfold addS; split
  · exact Nat.le_succ _
  · rw [List.length_append]; exact Nat.le_refl _
theorem foldS_len : ∀ (l m : List Str), (l.foldl addS m).length ≤ m.length + l.length
  | [], m => Nat.le_refl _
  | x :: l, m => Nat.le_trans (foldS_len l (addS m x)) (by have := addS_len m x; simp only [List.length_cons]; omega)
theorem metS_len (l : List Str) (i : Nat) : (metS l i).length ≤ i := Nat.le_trans (foldS_len _ _) (by rw [List.length_take]; simp; omega)
section
variable {prog : Program} {w : World} {A : Around} {E : Value → Shared → Prop} {s : Shared} {R : Result → Shared → Prop} {I : Addr} {fp wr : List Addr} {G : Array GenState → Array GenState → Prop} {n : Nat} {P : Nat → Value → Prop} {St : Nat → Shared → Prop}
theorem SSet.kp {h h' : Heap} {a : Addr} {l : List Str} (x : SSet prog w h a l) (k : ∀ o, h.get? a = some o → h'.get? a = some o) : SSet prog w h' a l :=
  byEEEA x fun es ep t ho hr => ⟨es, ep, t, k _ ho, hr⟩
theorem sset_loop (W : WalksS prog w A.in1 I fp wr G n P St) (S : Addr) (hSf : S ∉ fp) {l : List Str} (hl : l.length = n) (hval : ∀ i v, P i v → ∃ x t, l[i]? = some x ∧ v = .str x t) (hb : n + 1 < scanBound) :
    ∀ (k i : Nat) (s : Shared), n - i = k → i ≤ n → St i s → SSet prog w s.heap S (metS l i) →
      (∀ s', Moved (S :: wr) G s s' → SSet prog w s'.heap S (dedS l) → R (.ok (.ret .none)) s') →
      codeAny (model prog w) A (.builtin "set.update.loop" ⟨[.ref S, .ref I], []⟩) R s := by
  have hSw : S ∉ wr := fun h => hSf (W.sub _ h)
  have hsub : ∀ b ∈ wr, b ∈ S :: wr := fun b hb => List.mem_cons_of_mem _ hb
  intro k
  induction k with
  | zero =>
    intro i s hk hi hst hS hR
    have hin : i = n := by omega
    subst hin
    refine codeAny_builtin F.entry_set_update_loop ?_
    rw [Around.under_plainId F.plain_set_update_loop _]
    show wpAny _ A.in1 (pyNext (.ref I) >>= _) _ _ s
    refine wpAny_bind (W.done s _ _ hst fun s' hm => ?_)
    show wpAny _ A.in1 (ret Value.none) _ _ s'
    refine wpAny_pure (hR s' (hm.mono hsub) ?_)
    have e : metS l i = dedS l := by unfold metS; rw [← hl, List.take_length]
    rw [← e]
    exact hS.kp fun o => hm.heap S o hSw
  | succ k ih =>
    intro i s hk hi hst hS hR
    have hlt : i < n := by omega
    refine codeAny_builtin F.entry_set_update_loop ?_
    rw [Around.under_plainId F.plain_set_update_loop _]
    show wpAny _ A.in1 (pyNext (.ref I) >>= _) _ _ s
    refine wpAny_bind (W.item i s _ _ hlt hst fun v s' hP hst' hm => ?_)
    refine byEEA (hval i v hP) fun x t hx hv => ?_
    subst hv
    show wpAny _ A.in1 (holding [Value.str x t] (setAdd S (.str x t)) >>= _) _ _ s'
    refine wpAny_bind (wpAny_holding ?_)
    unfold setAdd
    refine wpAny_holding ?_
    refine wpAny_bind ((PySem.strKind prog w).pyHash (k := x) (strKind_is _ _ _ _) ?_)
    refine sset_add (s := { s' with toks := s'.toks + 1 }) (l' := metS l (i + 1)) (hS.kp fun o => hm.heap S o hSw) (by have := metS_len l i; omega) (by rw [metS_succ hx]; exact .refl _) fun b h' hsb hS2 => ?_
    refine wpAny_pure ⟨plainId_quiet F.plain_set_update_loop _, ih (i + 1) _ (by omega) hlt (W.frame _ s' _ _ hst' (Nat.le_succ _) fun b hb o e => ?_) hS2 fun s'' hm'' hS'' => ?_⟩
    · rw [hsb.2 b (fun h : b = S => hSf (by rw [← h]; exact hb))]; exact e
    · refine hR s'' (Moved.trans W.gtrans ((hm.mono hsub).then_heap (Nat.le_succ _) fun b o hb e => ?_) hm'') hS''
      rw [hsb.2 b (fun h : b = S => hb (by rw [h]; exact List.mem_cons_self))]; exact e
theorem strsAre_at : ∀ {ss : List Str} {vs : List Value}, StrsAre vs ss → ∀ {i : Nat} {v : Value}, vs[i]? = some v → ∃ x t, ss[i]? = some x ∧ v = .str x t
  | _, _, .nil, i, v, h => by simp at h
  | _, _, .cons y t r, 0, v, h => by simp at h; exact ⟨y, t, rfl, h.symm⟩
  | _, _, .cons y t r, i + 1, v, h => strsAre_at r (by simpa using h)
theorem sset_fresh {h : Heap} {a : Addr} {led : Bool} (e : h.get? a = some { cls := .type "set", dict := none, data := .set #[] 0 (.fresh 0 0 led) }) : SSet prog w h a [] :=
  ⟨#[], 0, _, e, fun e he => by simp at he, .refl _, by decide, by rfl, fun h => absurd h (by decide)⟩
set_option maxHeartbeats 3200000 in
theorem call_set_strs {l : Addr} {items : Array Value} {ss : List Str} {Q : Value → Shared → Prop}
    (hh : A.handled = none) (hl : s.heap.PlainList l items) (hi : StrsAre items.toList ss) (hb : items.size + 1 < scanBound)
    (h : ∀ (h' : Heap) (tk : Nat), SSet prog w h' s.heap.objs.size (dedS ss) → (∀ b o, b < s.heap.objs.size → s.heap.get? b = some o → h'.get? b = some o) → Q (.ref s.heap.objs.size) { s with heap := h', toks := tk }) :
    wpAny (model prog w) A (call (.type "set") [.ref l]) Q E s := by
  refine byEE F.called_set.mro fun c tl hmro => ?_
  have hmade := F.called_set.made
  have hsub := F.called_set.sub
  have hlen : ss.length = items.size := by rw [← Array.length_toList, StrsAre.len_eq hi]
  refine wpAny_call (codeAny_of_tree ?_)
  show wpAny _ _ (callAny (.type "set") _) _ _ _
  refine wpAny_pure ⟨Code.quiet_builtin _ (by decide +kernel), codeAny_builtin F.entry_type_call ?_⟩
  rw [Around.under_plain (weight_type_call_type "set" [.ref l] []) rfl]
  have h1 := F.called_set.notType
  have h2 := F.called_set.canCreate
  have hct := F.typeCall_set_1 (.ref l)
  repeat (any_goals (first | assumption | wp_step))
  refine codeAny_mono (code_set_new_1 (.ref l) (E := E) (Q₁ := fun obj s₁ => ∃ led : Bool, obj = .ref s.heap.objs.size ∧ s₁ = { s with heap := s.heap.push { cls := .type "set", dict := none, data := .set #[] 0 (.fresh 0 0 led) } }) fun led => ⟨led, rfl, rfl⟩) fun r s₁ hr => ?_
  cases r with
  | error e => exact hr
  | ok fl =>
    cases fl with
    | ret obj =>
      refine byEA hr fun led hq1 hq2 => ?_
      subst hq1 hq2
      have hS : (s.heap.push { cls := .type "set", dict := none, data := .set #[] 0 (.fresh 0 0 led) }).get? s.heap.objs.size = some { cls := .type "set", dict := none, data := .set #[] 0 (.fresh 0 0 led) } := Heap.get?_push_size _ rfl
      have hT : Shared.TypeIs { s with heap := s.heap.push { cls := .type "set", dict := none, data := .set #[] 0 (.fresh 0 0 led) } } (.ref s.heap.objs.size) "set" := ⟨_, hS, rfl⟩
      have hli := F.called_set.init.lookup
      have hbi := F.called_set.init.bind (.ref s.heap.objs.size)
      repeat (any_goals (first | assumption | wp_step))
      refine codeAny_mono (codeAny_call_builtin (R := wants (fun r s₂ => r = .none ∧ ∃ h' tk, s₂ = { s with heap := h', toks := tk } ∧ SSet prog w h' s.heap.objs.size (dedS ss) ∧ (∀ b o, b < s.heap.objs.size → s.heap.get? b = some o → h'.get? b = some o)) E) F.called_set.init.plain F.entry_set_init (check_set_init_1 hT ?_)) fun r₂ s₂ hr₂ => ?_
      · refine byE hl fun nl hol => ?_
        have hol' : (s.heap.push { cls := .type "set", dict := none, data := .set #[] 0 (.fresh 0 0 led) }).get? l = some { cls := .type "list", dict := none, data := .seq items nl, slots := #[] } := Heap.get?_push_of_some _ hol
        have hsls := F.sub_list_set
        have hslf := F.sub_list_frozenset
        have hne : (Value.type "list" == Value.type "dict") = false := by decide
        have hl1 : (s.heap.push { cls := .type "set", dict := none, data := .set #[] 0 (.fresh 0 0 led) }).IsList l items := ⟨_, hol', rfl, nl, rfl⟩
        unfold Builtin.«set.__init__» noKeywords Builtin.Frozenset.updateFrom
        generalize hPI : pyIter = PI
        wp_walk
        subst hPI
        refine wpAny_pyIter_list hl1 ?_
        refine wpAny_bind (wpAny_runValue ?_)
        have hlS : l < s.heap.objs.size := Heap.lt_size hol
        have hh3 : A.in1.in1.in1.handled = none := by simp [hh]
        have hneI : l ≠ (s.heap.push { cls := .type "set", dict := none, data := .set #[] 0 (.fresh 0 0 led) }).objs.size := by
          rw [Heap.size_push]; exact Nat.ne_of_lt (Nat.lt_succ_of_lt hlS)
        have hSf : s.heap.objs.size ∉ [(s.heap.push { cls := .type "set", dict := none, data := .set #[] 0 (.fresh 0 0 led) }).objs.size, l] := by
          rw [Heap.size_push]; simp only [List.mem_cons, List.not_mem_nil, or_false, not_or]
          exact ⟨Nat.ne_of_lt (Nat.lt_succ_self _), Nat.ne_of_gt hlS⟩
        have hval : ∀ (i : Nat) (v : Value), items[i]? = some v → ∃ x t, ss[i]? = some x ∧ v = .str x t := fun i v hv => strsAre_at hi (by rw [Array.getElem?_toList]; exact hv)
        refine sset_loop ((Walks.list hh3 _ l hneI items).toS) s.heap.objs.size hSf hlen hval hb (items.size - 0) 0 _ (by omega) (Nat.zero_le _) ⟨⟨_, Heap.get?_push_size _ rfl, rfl, rfl⟩, (hl1.push _)⟩ (sset_fresh (Heap.get?_push_of_some _ hS)) ?_
        intro s' hm hS'
        rw [Moved.eq_with hm]
        show wpAny _ _ _ _ _ _
        refine wpAny_pure ?_
        show wpAny _ _ (ret Value.none) _ _ _
        refine wpAny_pure ⟨rfl, _, _, rfl, hS', fun b o hb e => ?_⟩
        have hb1 : b ≠ s.heap.objs.size := Nat.ne_of_lt hb
        have hb2 : b ≠ (s.heap.push { cls := .type "set", dict := none, data := .set #[] 0 (.fresh 0 0 led) }).objs.size := by
          rw [Heap.size_push]; exact Nat.ne_of_lt (Nat.lt_succ_of_lt hb)
        exact hm.heap b o (by simp only [List.mem_cons, List.not_mem_nil, or_false, not_or]; exact ⟨hb1, hb2⟩) (Heap.get?_push_of_some _ (Heap.get?_push_of_some _ e))
      · cases r₂ with
        | error e => exact hr₂
        | ok fl₂ =>
          cases fl₂ with
          | ret r =>
            obtain ⟨rfl, h', tk, rfl, hS', hk'⟩ := hr₂
            repeat (any_goals (first | assumption | wp_step))
            exact h _ _ hS' hk'
          | _ => exact hr₂.elim
    | _ => exact hr.elim
end
end Jv
namespace Jv
open PySem PySem.W PySem.Calls PyProof.Rows
namespace SI
theorem next_slot : PySem.Slot "set_iterator" "__next__" "set_iterator.__next__" :=
  .of (owner := "set_iterator") (n := "__next__") (by rw [typeLookup_type, builtinLookup_eq_fast]; kernel_rfl) (by decide +kernel) (by decide +kernel) (by decide +kernel)
    (by first | exact .inl (by decide +kernel) | exact .inr (by decide +kernel)) (by rw [isSubtype_type]; kernel_rfl)
theorem next_entry : entryFor table "set_iterator.__next__" = some Builtin.«set_iterator.__next__» := entryFor_of_tree (by kernel_rfl)
theorem owner_si : Manifest.owners.lookup (String.ofList ['r', 'o', 't', 'a', 'r', 'e', 't', 'i', '_', 't', 'e', 's'].reverse) = some Manifest.sig_set_iterator := by kernel_rfl
theorem next_args (a : Value) : argsOk "set_iterator.__next__" ⟨[a], []⟩ := by
  unfold argsOk
  rw [signature?_of (id := "set_iterator.__next__") (n := ['_', '_', 't', 'x', 'e', 'n', '_', '_']) (o := ['r', 'o', 't', 'a', 'r', 'e', 't', 'i', '_', 't', 'e', 's']) (by kernel_rfl) owner_si]
  kernel_rfl
theorem iter_slot : PySem.Slot "set_iterator" "__iter__" "set_iterator.__iter__" :=
  .of (owner := "set_iterator") (n := "__iter__") (by rw [typeLookup_type, builtinLookup_eq_fast]; kernel_rfl) (by decide +kernel) (by decide +kernel) (by decide +kernel)
    (by first | exact .inl (by decide +kernel) | exact .inr (by decide +kernel)) (by rw [isSubtype_type]; kernel_rfl)
theorem iter_entry : entryFor table "set_iterator.__iter__" = some Builtin.«dict_keyiterator.__iter__» :=
  entryFor_alias (id' := "dict_keyiterator.__iter__") (by kernel_rfl) rfl (by decide +kernel) (by kernel_rfl)
theorem iter_args (a : Value) : argsOk "set_iterator.__iter__" ⟨[a], []⟩ := by
  unfold argsOk
  rw [signature?_of (id := "set_iterator.__iter__") (n := ['_', '_', 'r', 'e', 't', 'i', '_', '_']) (o := ['r', 'o', 't', 'a', 'r', 'e', 't', 'i', '_', 't', 'e', 's']) (by kernel_rfl) owner_si]
  kernel_rfl
theorem set_iter_entry : entryFor table "set.__iter__" = some Builtin.«frozenset.__iter__» :=
  entryFor_alias (id' := "frozenset.__iter__") (by kernel_rfl) rfl (by decide +kernel) (by kernel_rfl)
end SI
end Jv
namespace Jv
open PySem PySem.W PySem.Calls PyProof.Rows
theorem pick_go {α : Type} (next : Nat → Nat) : ∀ (n k : Nat) (l : List α) (out : Array α), l.length = n → (pickOrder.go next n k l out).toList.Perm (out.toList ++ l)
  | 0, k, l, out, h => by
    cases l with
    | nil => unfold pickOrder.go; simp
    | cons => simp at h
  | n + 1, k, l, out, h => by
    have hl : next k % l.length < l.length := Nat.mod_lt _ (by omega)
    unfold pickOrder.go
    rw [List.getElem?_eq_getElem hl]
    refine (pick_go next n (k + 1) _ _ (by rw [List.length_eraseIdx, if_pos hl, h]; rfl)).trans ?_
    rw [Array.toList_push, List.append_assoc]
    exact .append_left _ (erase_perm _ _ _ (List.getElem?_eq_getElem hl))
theorem pick_perm {α : Type} (next : Nat → Nat) (xs : Array α) : (pickOrder next xs).toList.Perm xs.toList := by
  have := pick_go next xs.size 0 xs.toList #[] (by simp)
  simpa [pickOrder] using this
section
variable {prog : Program} {w : World} {A : Around} {E : Value → Shared → Prop} {s : Shared}
noncomputable def SIt (w : World) (h : Heap) (I S T : Addr) (ord : List Value) (i : Nat) : Prop :=
  ∃ es ep t fst, h.get? S = some { cls := .type "set", dict := none, data := .set es ep t, slots := #[] } ∧ t.fits es.size = true ∧
    h.get? I = some { cls := .type "set_iterator", dict := none, data := .fields #[fst, .int i 0, .ref S, .int es.size 0, .int ep 0], slots := #[] } ∧
    ((w.params.followText "set-order" = true ∧ (∃ sl : Nat, fst = .int sl 0) ∧ ord = (pickOrder (w.params.setOrder S ep) es).toList.map (·.2)) ∨
      ∃ (ps : List Nat), fst = .ref T ∧ h.get? T = some { cls := .type "tuple", data := .seq (ps.map fun i : Nat => rawInt i).toArray } ∧ (∀ p, p ∈ ps → p < es.size) ∧ ord = ps.map fun p => (es.getD p (0, .none)).2)
theorem SIt.els {h : Heap} {I S T : Addr} {ord : List Value} {i : Nat} {c : Prop} (x : SIt w h I S T ord i)
    (k : ∀ es ep t fst, h.get? S = some { cls := .type "set", dict := none, data := .set es ep t, slots := #[] } → t.fits es.size = true → h.get? I = some { cls := .type "set_iterator", dict := none, data := .fields #[fst, .int i 0, .ref S, .int es.size 0, .int ep 0], slots := #[] } →
      ((w.params.followText "set-order" = true ∧ (∃ sl : Nat, fst = .int sl 0) ∧ ord = (pickOrder (w.params.setOrder S ep) es).toList.map (·.2)) ∨
      ∃ (ps : List Nat), fst = .ref T ∧ h.get? T = some { cls := .type "tuple", data := .seq (ps.map fun i : Nat => rawInt i).toArray } ∧ (∀ p, p ∈ ps → p < es.size) ∧ ord = ps.map fun p => (es.getD p (0, .none)).2) → c) : c :=
  x.elim fun es x => x.elim fun ep x => x.elim fun t x => x.elim fun fst x => k es ep t fst x.1 x.2.1 x.2.2.1 x.2.2.2
theorem setNe {h : Heap} {S I : Addr} {es : Array (Int × Value)} {ep : Nat} {t : SetTable} {f : Array Value} (hS : h.get? S = some { cls := .type "set", dict := none, data := .set es ep t, slots := #[] }) (hI : h.get? I = some { cls := .type "set_iterator", dict := none, data := .fields f, slots := #[] }) : S ≠ I := fun e => by
  subst e; rw [hS] at hI; simp at hI
theorem tupNe {h : Heap} {S I : Addr} {es : Array Value} {f : Array Value} (hS : h.get? S = some { cls := .type "tuple", data := .seq es }) (hI : h.get? I = some { cls := .type "set_iterator", dict := none, data := .fields f, slots := #[] }) : S ≠ I := fun e => by
  subst e; rw [hS] at hI; simp at hI
theorem wp_walkText {S : Addr} {es : Array (Int × Value)} {ep : Nat} {t : SetTable} {Q : Array (Int × Value) → Shared → Prop} (hS : s.heap.get? S = some { cls := .type "set", dict := none, data := .set es ep t, slots := #[] }) (hf : t.fits es.size = true) (hb : w.params.followText "set-order" = true)
    (h : Q (pickOrder (w.params.setOrder S ep) es) s) : wpAny (model prog w) A (setWalk S) Q E s := by
  have hb' : (model prog w).w.params.followText "set-order" = true := hb
  unfold setWalk
  refine wpAny_bind (wpAny_setState_of hS rfl hf ?_)
  dsimp only
  unfold setsByText
  refine wpAny_bind (wpAny_bind (wpAny_askSetting (wpAny_pure ?_)))
  dsimp only
  rw [if_pos hb']
  exact wpAny_bind (wpAny_askSetting (wpAny_pure h))
theorem wp_nextText {S : Addr} {es : Array (Int × Value)} {ep slot given : Nat} {t : SetTable} {Q : Option (Value × Nat) → Shared → Prop} (hS : s.heap.get? S = some { cls := .type "set", dict := none, data := .set es ep t, slots := #[] }) (hf : t.fits es.size = true) (hb : w.params.followText "set-order" = true)
    (h : Q ((pickOrder (w.params.setOrder S ep) es)[given]?.map fun e => (e.2, slot)) s) : wpAny (model prog w) A (setNext S slot given ep) Q E s := by
  have hb' : (model prog w).w.params.followText "set-order" = true := hb
  unfold setNext
  refine wpAny_bind (wpAny_setState_of hS rfl hf ?_)
  dsimp only
  unfold setsByText
  refine wpAny_bind (wpAny_bind (wpAny_askSetting (wpAny_pure ?_)))
  dsimp only
  rw [if_pos hb', if_neg (by simp)]
  exact wpAny_bind (wp_walkText hS hf hb (wpAny_pure h))
theorem wp_nextDrawn {S : Addr} {es : Array (Int × Value)} {ep place : Nat} {t : SetTable} {Q : Value → Shared → Prop} (hS : s.heap.get? S = some { cls := .type "set", dict := none, data := .set es ep t, slots := #[] }) (hf : t.fits es.size = true) (hp : place < es.size)
    (h : Q (es.getD place (0, .none)).2 s) : wpAny (model prog w) A (setNextDrawn S place ep) Q E s := by
  unfold setNextDrawn
  refine wpAny_bind (wpAny_setState_of hS rfl hf ?_)
  dsimp only
  rw [if_neg (by simp), Array.getElem?_eq_getElem hp]
  have e : es.getD place (0, .none) = es[place] := by simp [Array.getD, hp]
  rw [e] at h
  exact wpAny_pure h
theorem sit_item {I S T : Addr} {ord : List Value} {i : Nat} {v : Value} {Q : Option Value → Shared → Prop} (x : SIt w s.heap I S T ord i) (hx : ord[i]? = some v)
    (hQ : ∀ h', SIt w h' I S T ord (i + 1) → Heap.SameBut I s.heap h' → Q (some v) { s with heap := h' }) : wpAny (model prog w) A (pyNext (.ref I)) Q E s := by
  refine x.els fun es ep t fst hS hf hI hm => ?_
  have hT : s.TypeIs (.ref I) "set_iterator" := ⟨_, hI, rfl⟩
  have hne := setNe hS hI
  unfold pyNext
  refine wpAny_bind (wpAny_attempt (wpAny_callSpecial?_slot (name := Str.ofString "__next__") hT SI.next_slot
    (wpAny_call_entry SI.next_slot hT SI.next_entry ?_ (SI.next_args _))))
  unfold Builtin.«set_iterator.__next__»
  refine wpAny_bind (m := slotArgs _ _ _) (wpAny_pure ?_)
  refine wpAny_bind (wpAny_fieldsOf hI rfl ?_)
  refine wpAny_bind (wpAny_setEntries_of hS rfl hf ?_)
  dsimp only
  rw [if_neg (by simp)]
  refine hm.elim (fun hm => byAA hm fun hb hsl ho => ?_) fun hm => byEAAA hm fun ps hq hTT hps ho => ?_
  · refine byE hsl fun sl hq => ?_
    subst hq
    dsimp only
    refine wpAny_bind (wp_nextText hS hf hb ?_)
    have e : (pickOrder (w.params.setOrder S ep) es)[((i : Nat) : Int).toNat]?.map (fun e => (e.2, ((sl : Nat) : Int).toNat)) = some (v, sl) := by
      rw [ho, List.getElem?_map, Array.getElem?_toList] at hx
      rw [Int.toNat_natCast, Int.toNat_natCast]
      cases q : (pickOrder (w.params.setOrder S ep) es)[i]? with
      | none => rw [q] at hx; cases hx
      | some r => rw [q] at hx; injection hx with hx; rw [← hx]; rfl
    rw [Int.toNat_natCast ep, e]
    dsimp only
    refine wpAny_bind (wpAny_setField_rec hI (by simp) fun h₁ hI₁ hs₁ => ?_)
    refine wpAny_bind (wpAny_setField_rec (s := { s with heap := h₁ }) hI₁ (by simp) fun h₂ hI₂ hs₂ => ?_)
    refine wpAny_pure ⟨_, rfl, wpAny_pure (hQ h₂ ⟨es, ep, t, _, ?_, hf, ?_, .inl ⟨hb, ⟨sl, rfl⟩, ho⟩⟩ (hs₁.trans hs₂))⟩
    · exact (hs₂.2 S hne).trans ((hs₁.2 S hne).trans hS)
    · exact hI₂
  · subst hq
    have hneT := tupNe hTT hI
    have hi : i < ps.length := by
      have := (List.getElem?_eq_some_iff.mp hx).1
      rw [ho, List.length_map] at this; exact this
    have hv : v = (es.getD ps[i] (0, .none)).2 := by
      rw [ho, List.getElem?_map, List.getElem?_eq_getElem hi] at hx
      injection hx with hx; exact hx.symm
    dsimp only
    refine wpAny_bind (wpAny_seqItems hTT rfl ?_)
    dsimp only
    rw [Int.toNat_natCast, List.getElem?_toArray, List.getElem?_map, List.getElem?_eq_getElem hi]
    show wpAny _ _ (setNextDrawn S ((ps[i] : Nat) : Int).toNat ((ep : Nat) : Int).toNat >>= _) _ _ _
    rw [Int.toNat_natCast, Int.toNat_natCast]
    refine wpAny_bind (wp_nextDrawn hS hf (hps _ (List.getElem_mem hi)) ?_)
    refine wpAny_bind (wpAny_setField_rec hI (by simp) fun h₁ hI₁ hs₁ => ?_)
    rw [← hv]
    refine wpAny_pure ⟨_, rfl, wpAny_pure (hQ h₁ ⟨es, ep, t, _, ?_, hf, ?_, .inr ⟨ps, rfl, ?_, hps, ho⟩⟩ hs₁)⟩
    · exact (hs₁.2 S hne).trans hS
    · exact hI₁
    · exact (hs₁.2 T hneT).trans hTT
theorem sit_end {I S T : Addr} {ord : List Value} {Q : Option Value → Shared → Prop} (hh : A.handled = none) (x : SIt w s.heap I S T ord ord.length)
    (hQ : ∀ h', Heap.ExtBut I s.heap h' → Q none { s with heap := h' }) : wpAny (model prog w) A (pyNext (.ref I)) Q E s := by
  refine x.els fun es ep t fst hS hf hI hm => ?_
  have hT : s.TypeIs (.ref I) "set_iterator" := ⟨_, hI, rfl⟩
  have stop : ∀ h₁, Heap.ExtBut I s.heap h₁ → wpAny (model prog w) A.in1 (newExc (.type "StopIteration") [] >>= raiseNew) (fun fin s' => ∃ v, fin = Fin.done (Flow.ret v) ∧ wpAny (model prog w) A (pure (some v)) Q E s') (fun e s' => wpAny (model prog w) A
            (do
              let __do_lift ← isInstance e (Value.type "StopIteration")
              if __do_lift = true then pure none else throw e)
            Q E s') { s with heap := h₁ } := fun h₁ hx => by
    refine wpAny_bind ?_
    simp only [newExc, newTuple]
    refine wpAny_bind (wpAny_newObj_type ?_ (by size_fits))
    refine wpAny_bind (m := firstArgMember _ _) (wpAny_of_eq (a := Value.none) (by first | rfl | (simp only [firstArgMember]; rfl)) ?_)
    refine wpAny_newObj_type ?_ (by size_fits)
    simp only [raiseNew]
    refine wpAny_bind (wpAny_handled ?_)
    rw [show A.in1.handled = none from hh]
    refine wpAny_bind (wpAny_pure (wpAny_throw ?_))
    refine wpAny_bind (wpAny_isInstance (T := "StopIteration") (b := true) ⟨_, Heap.get?_push_size _ rfl, rfl⟩ isSubtype_stop ?_)
    exact wpAny_pure (hQ _ ((hx.push _).push _))
  unfold pyNext
  refine wpAny_bind (wpAny_attempt (wpAny_callSpecial?_slot (name := Str.ofString "__next__") hT SI.next_slot
    (wpAny_call_entry SI.next_slot hT SI.next_entry ?_ (SI.next_args _))))
  unfold Builtin.«set_iterator.__next__»
  refine wpAny_bind (m := slotArgs _ _ _) (wpAny_pure ?_)
  refine wpAny_bind (wpAny_fieldsOf hI rfl ?_)
  refine wpAny_bind (wpAny_setEntries_of hS rfl hf ?_)
  dsimp only
  rw [if_neg (by simp)]
  refine hm.elim (fun hm => byAA hm fun hb hsl ho => ?_) fun hm => byEAAA hm fun ps hq hTT hps ho => ?_
  · refine byE hsl fun sl hq => ?_
    subst hq
    dsimp only
    refine wpAny_bind (wp_nextText hS hf hb ?_)
    have e : (pickOrder (w.params.setOrder S ep) es)[((ord.length : Nat) : Int).toNat]? = none := by
      rw [ho, Int.toNat_natCast]; simp
    rw [Int.toNat_natCast ep, e]
    show wpAny _ _ (setField (.ref I) 2 .none >>= _) _ _ _
    refine wpAny_bind (wpAny_setField_rec hI (by simp) fun h₁ hI₁ hs₁ => ?_)
    exact stop h₁ hs₁.extBut
  · subst hq
    dsimp only
    refine wpAny_bind (wpAny_seqItems hTT rfl ?_)
    dsimp only
    rw [Int.toNat_natCast, List.getElem?_toArray, List.getElem?_map, List.getElem?_eq_none (by rw [ho, List.length_map]; exact Nat.le_refl _)]
    show wpAny _ _ (setField (.ref I) 0 (rawInt 0) >>= _) _ _ _
    refine wpAny_bind (wpAny_setField_rec hI (by simp) fun h₁ hI₁ hs₁ => ?_)
    refine wpAny_bind (wpAny_setField_rec (s := { s with heap := h₁ }) hI₁ (by simp) fun h₂ hI₂ hs₂ => ?_)
    exact stop h₂ (hs₁.trans hs₂).extBut
theorem SIt.at {h h' : Heap} {I S T : Addr} {ord : List Value} {i : Nat} (x : SIt w h I S T ord i) (k : ∀ b, b ∈ [I, S, T] → ∀ o, h.get? b = some o → h'.get? b = some o) : SIt w h' I S T ord i := by
  refine x.els fun es ep t fst hS hf hI hm => ?_
  refine ⟨es, ep, t, fst, k _ (by simp) _ hS, hf, k _ (by simp) _ hI, ?_⟩
  exact hm.imp id fun hm => byEAAA hm fun ps hq hTT hps ho => ⟨ps, hq, k _ (by simp) _ hTT, hps, ho⟩
theorem sit_self {I S T : Addr} {ord : List Value} {i : Nat} {Q : Value → Shared → Prop} (x : SIt w s.heap I S T ord i) (h : Q (.ref I) s) : wpAny (model prog w) A (pyIter (.ref I)) Q E s := by
  refine x.els fun es ep t fst hS hf hI hm => ?_
  have hT : s.TypeIs (.ref I) "set_iterator" := ⟨_, hI, rfl⟩
  refine wpAny_pyIter_slot hT SI.iter_slot (wpAny_call_entry SI.iter_slot hT SI.iter_entry ?_ (SI.iter_args _))
  show wpAny _ _ (ret (.ref I)) _ _ s
  exact wpAny_pure ⟨_, rfl, "set_iterator", _, hT, SI.next_slot.lookup, h⟩
theorem walks_set (hh : A.handled = none) (I S T : Addr) (ord : List Value) : Walks prog w A I [I, S, T] [I] ord.length (fun i v => ord[i]? = some v) (fun i h => SIt w h I S T ord i) where
  sub := fun b hb => by simp at hb; simp [hb]
  frame := fun _ _ _ st hk => st.at hk
  item := fun i s Q E hi st hQ => sit_item st (List.getElem?_eq_getElem hi) fun h' st' hs => hQ _ h' s.toks (List.getElem?_eq_getElem hi) st' fun b o hb e => (hs.2 b (fun h => hb (by simp [h]))).trans e
  done := fun s Q E st hQ => sit_end hh st fun h' he => hQ h' s.toks fun b o hb e => he b o (fun h => hb (by simp [h])) e
  self := fun _ _ _ _ st hQ => sit_self st hQ
theorem wp_setDrawn {S : Addr} {es : Array (Int × Value)} {ep : Nat} {t : SetTable} {Q : Bool → Shared → Prop} (hS : s.heap.get? S = some { cls := .type "set", dict := none, data := .set es ep t, slots := #[] }) (hf : t.fits es.size = true) (hpl : t.plain = false) (h2 : 1 < es.size)
    (h : Q (!w.params.followText "set-order") s) : wpAny (model prog w) A (setDrawn S) Q E s := by
  unfold setDrawn
  refine wpAny_bind (wpAny_setState_of hS rfl hf ?_)
  dsimp only
  unfold setsByText
  refine wpAny_bind (wpAny_bind (wpAny_askSetting (wpAny_pure ?_)))
  refine wpAny_pure ?_
  show Q (!w.params.followText "set-order" && (!t.plain && decide (es.size > 1))) s
  have e : (!t.plain && decide (es.size > 1)) = true := by rw [hpl]; simpa using h2
  rw [e, Bool.and_true]; exact h
theorem sset_iter {S : Addr} {l : List Str} {Q : Value → Shared → Prop} (hS : SSet prog w s.heap S l) (h2 : 1 < l.length)
    (h : ∀ h' (d : Drawn) I T ord, s.heap.objs.size ≤ I → (∀ b o, s.heap.get? b = some o → h'.get? b = some o) → SIt w h' I S T ord 0 → (T = S ∨ s.heap.objs.size ≤ T) → (ord.map txtOf).Perm l → (∀ v, v ∈ ord → ∃ x t, v = .str x t) → Q (.ref I) { s with heap := h', drawn := d }) : wpAny (model prog w) A (pyIter (.ref S)) Q E s := by
  refine byEEEA hS fun es ep t hS hr => byAAAA hr fun hel hp hb hf hpl => ?_
  have hsz : es.size = l.length := by rw [← hp.length_eq]; simp
  have hpl := hpl (by omega)
  have hT : s.TypeIs (.ref S) "set" := ⟨_, hS, rfl⟩
  have hst : ∀ v, v ∈ es.toList.map (·.2) → ∃ x t, v = .str x t := fun v m => by
    obtain ⟨e, me, rfl⟩ := List.mem_map.mp m
    obtain ⟨⟨x, hx, _⟩, _⟩ := hel e me
    obtain ⟨_, v⟩ := e
    cases v <;> simp [PySem.strKind, Value.isStrOf] at hx ⊢
  refine wpAny_pyIter_slot hT F.slot_set_iter (wpAny_call_entry F.slot_set_iter hT SI.set_iter_entry ?_ (F.args_set_iter_1 _))
  unfold Builtin.«frozenset.__iter__» Builtin.Frozenset.slot0
  refine wpAny_bind (wpAny_bind (m := slotArgs _ _ _) (wpAny_pure (wpAny_pure ?_)))
  unfold Builtin.Frozenset.sizeOf
  refine wpAny_bind (wpAny_bind (wpAny_setEntries_of hS rfl hf (wpAny_pure ?_)))
  have fin : ∀ (fst : Value) (h₁ : Heap) (d : Drawn) (T : Addr) (ord : List Value), (∀ b o, s.heap.get? b = some o → h₁.get? b = some o) → s.heap.objs.size ≤ h₁.objs.size → (T = S ∨ s.heap.objs.size ≤ T) → (ord.Perm (es.toList.map (·.2))) →
      ((w.params.followText "set-order" = true ∧ (∃ sl : Nat, fst = .int sl 0) ∧ ord = (pickOrder (w.params.setOrder S ep) es).toList.map (·.2)) ∨
      ∃ (ps : List Nat), fst = .ref T ∧ h₁.get? T = some { cls := .type "tuple", data := .seq (ps.map fun i : Nat => rawInt i).toArray } ∧ (∀ p, p ∈ ps → p < es.size) ∧ ord = ps.map fun p => (es.getD p (0, .none)).2) →
      wpAny (model prog w) A.in1 (do
        let e ← setEpoch S
        let r ← newFields "set_iterator" [fst, rawInt 0, .ref S, rawInt es.size, rawInt e]
        ret r) (fun fin s' => ∃ v, fin = Fin.done (Flow.ret v) ∧ ∃ T' r, s'.TypeIs v T' ∧ typeLookup (Value.type T') (Str.ofString "__next__") = pure (some r) ∧ Q v s') E { s with heap := h₁, drawn := d } := fun fst h₁ d T ord hk hle hT' ho hm => by
    refine wpAny_bind (wpAny_setEpoch_of (hk _ _ hS) rfl hf ?_)
    refine wpAny_bind ?_
    unfold newFields
    refine wpAny_newObj_type (wpAny_pure ⟨_, rfl, "set_iterator", _, ⟨_, Heap.get?_push_size _ rfl, rfl⟩, SI.next_slot.lookup, ?_⟩)
    refine h _ d _ T ord hle (fun b o e => Heap.get?_push_of_some _ (hk b o e)) ⟨es, ep, t, fst, Heap.get?_push_of_some _ (hk _ _ hS), hf, Heap.get?_push_size _ rfl, ?_⟩ hT' ?_ fun v m => hst v (ho.mem_iff.mp m)
    · exact hm.imp id fun hm => byEAAA hm fun ps e1 e2 e3 e4 => ⟨ps, e1, Heap.get?_push_of_some _ e2, e3, e4⟩
    · refine (ho.map _).trans ?_
      rw [List.map_map]; exact hp
  refine wpAny_bind (wp_setDrawn hS hf hpl (by omega) ?_)
  cases hbt : w.params.followText "set-order" with
  | true =>
    exact wpAny_bind (wpAny_pure (fin (rawInt 0) s.heap s.drawn S _ (fun _ _ e => e) (Nat.le_refl _) (.inl rfl) ((pick_perm _ es).map _) (.inl ⟨hbt, ⟨0, rfl⟩, rfl⟩)))
  | false =>
    refine wpAny_bind (wp_drawOrder es.size (List.range es.size) (by simp) fun r d hr => ?_)
    refine wpAny_bind (wpAny_newTuple ?_ (by rw [List.length_map, hr.length_eq, List.length_range]; exact fits_of_scanBound hb))
    refine fin _ _ d s.heap.objs.size (r.map fun p => (es.getD p (0, .none)).2) (fun b o e => Heap.get?_push_of_some _ e) (by rw [size_push']; exact Nat.le_succ _) (.inr (Nat.le_refl _)) ?_ (.inr ⟨r, rfl, Heap.get?_push_size _ rfl, fun p m => List.mem_range.mp (hr.mem_iff.mp m), rfl⟩)
    refine (hr.map _).trans ?_
    have e : (List.range es.size).map (fun p => (es.getD p (0, .none)).2) = es.toList.map (·.2) := by
      apply List.ext_getElem
      · simp
      · intro j h1 h2
        simp at h1
        simp [Array.getD, h1]
    rw [e]
end
end Jv
namespace Jv
open PySem PySem.W PySem.Calls PyProof.Rows
section
variable {B : Base} {k : Nat} {K : Kinds} {Γ Γ' : G} {V V' V₀ W : Addr → Prop} {h h' : Heap} {env : Env} {A : Around} {s : Shared}
theorem extend_set {l : List Str} {r n₀ : Addr} {R : Result → Shared → Prop} {prog : Program} {w : World} {A : Around} {s : Shared}
    (hh : A.handled = none) (hS : SSet prog w s.heap r l) (h2 : 1 < l.length) (l₁ : s.heap.get? n₀ = some { cls := .type "list", data := .seq #[] }) (nr : n₀ ≠ r)
    (h : ∀ h' d tk acc c, (∀ b o, b ≠ n₀ → s.heap.get? b = some o → h'.get? b = some o) → h'.get? n₀ = some { cls := .type "list", dict := none, data := .seq acc c, slots := #[] } → (acc.toList.map txtOf).Perm l → (∀ v, v ∈ acc.toList → ∃ x t, v = .str x t) → R (.ok (.ret (.ref n₀))) { s with heap := h', drawn := d, toks := tk }) :
    wpAny (model prog w) A.in1 (Builtin.List.listExtendWith (.ref n₀) (.ref r) (.ref n₀))
      (fun fin s' => match fin with | .done f => R (.ok f) s' | .again c' => c'.quiet = true ∧ codeAny (model prog w) A c' R s') (fun e s' => R (.error e) s') s := by
  have ln : n₀ < s.heap.objs.size := Heap.lt_size l₁
  have hsame : Builtin.List.listSameRef (.ref n₀) (.ref r) = false := by simp [Builtin.List.listSameRef, nr]
  have hz : l.length ≤ sizeLine := by
    refine byEEEA (id hS) fun es ep t _ hr => ?_
    rw [← hr.2.1.length_eq, List.length_map, Array.length_toList]
    exact fits_of_scanBound hr.2.2.1
  have ty₀ : s.TypeIs (.ref r) "set" := by refine byEEEA (id hS) fun es ep t e _ => ?_; exact ⟨_, e, rfl⟩
  unfold Builtin.List.listExtendWith
  refine wpAny_bind (wpAny_typeOf ty₀ ?_)
  rw [if_neg (by rw [hsame]; decide)]
  refine wpAny_bind (sset_iter hS h2 fun h₂ d I T ord hI k₂ st₀ nT ho hs => ?_)
  have W := (walks_set (prog := prog) (w := w) (A := A.in1) hh I r T ord).toS
  have l₂ := k₂ _ _ l₁
  have ty : Shared.TypeIs { s with heap := h₂, drawn := d } (.ref r) "set" := by refine byEEEA (id hS) fun es ep t e _ => ?_; exact ⟨_, k₂ _ _ e, rfl⟩
  have hsp : splitId "set.__len__" = some ("set", "__len__") := by decide +kernel
  refine wpAny_bind (wpAny_holding ?_)
  unfold Builtin.List.listLengthHint
  refine wpAny_bind (wpAny_specialOf ty PySem.F.slot_set_len.lookup ?_)
  revert hsp
  generalize e : ("set.__len__" : String) = q
  intro hsp
  wp_delta
  rw [hsp]
  subst e
  refine wpAny_bind (wpAny_isInstance (T := "set") (b := true) ty (by rw [isSubtype_type]; kernel_rfl) ?_)
  rw [if_neg (show ¬ (!true) = true by decide)]
  refine wpAny_ite_split (fun _ => wpAny_bind (wpAny_typeOf ty (wpAny_pure ?_))) (fun no => absurd (by decide +kernel) no)
  rw [if_pos (by decide)]
  have nI : I ≠ n₀ := Nat.ne_of_gt (Nat.lt_of_lt_of_le ln hI)
  have nTn : T ≠ n₀ := nT.elim (fun q => q ▸ nr.symm) fun q => Nat.ne_of_gt (Nat.lt_of_lt_of_le ln q)
  have no : n₀ ∉ [I, r, T] := by simp [nr, nI.symm, nTn.symm]
  show wpAny _ _ (rule "list.extend.makes-room" >>= fun _ => Builtin.List.listTouch (.ref n₀) >>= fun _ => again (.builtin "list.extend.loop" ⟨[.ref n₀, .ref I, .ref n₀], []⟩)) _ _ _
  refine wpAny_bind (PySem.wpAny_rule (wpAny_bind ?_))
  show wpAny _ _ (updateSeq n₀ (·.push .none) >>= fun _ => updateSeq n₀ (·.pop)) _ _ _
  refine wpAny_bind (wpAny_updateSeq l₂ rfl ?_)
  have l₃ := Heap.get?_update_self (Obj.mapSeq (·.push Value.none)) l₂ rfl
  refine wpAny_updateSeq (hz := by seq_fits) l₃ rfl ?_
  have far : ∀ b, b ≠ n₀ → ∀ o, h₂.get? b = some o → ((h₂.update n₀ (Obj.mapSeq (·.push Value.none))).update n₀ (Obj.mapSeq (·.pop))).get? b = some o := fun b hb o e =>
    (Heap.get?_update_other _ _ (Ne.symm hb)).trans ((Heap.get?_update_other _ _ (Ne.symm hb)).trans e)
  have l₄ := Heap.get?_update_self (Obj.mapSeq (·.pop)) l₃ rfl
  have st₄ := st₀.at fun b hb o e => far b (fun q => no (q ▸ hb)) o e
  have hol : ord.length = l.length := by rw [← ho.length_eq, List.length_map]
  refine wpAny_pure ⟨plainId_quiet PySem.F.plain_extend_loop _, codeAny_extend_loopS W (hol ▸ hz) n₀ no (.ref n₀) ord.length 0 _ #[] _ rfl (Nat.zero_le _) st₄ l₄ (ItemsOf.nil _) fun s' acc c hm hL hacc => ?_⟩
  have ea : acc.toList = ord := by
    apply List.ext_getElem?
    intro j
    by_cases hj : j < acc.size
    · rw [Array.getElem?_toList, Array.getElem?_eq_getElem hj]
      exact (hacc.2 j acc[j] (Array.getElem?_eq_getElem hj)).symm
    · have : ord.length ≤ j := by rw [← hacc.1]; omega
      rw [List.getElem?_eq_none (by simp; omega), List.getElem?_eq_none this]
  rw [Moved.eq_with hm]
  refine h _ _ _ _ _ (fun b o hb e => hm.heap b o (fun hmem => ?_) (far b hb _ (k₂ b o e))) hL (ea ▸ ho) (fun v m => hs v (ea ▸ m))
  have lb := Heap.lt_size e
  rcases List.mem_cons.mp hmem with q | hmem
  · exact hb q
  · rw [List.mem_singleton.mp hmem] at lb
    exact absurd hI (Nat.not_le.mpr lb)
theorem collect_set {l : List Str} {r : Addr} {R : List Value → Shared → Prop} {E : Value → Shared → Prop} {prog : Program} {w : World} {A : Around} {s : Shared}
    (hh : A.handled = none) (hS : SSet prog w s.heap r l) (h2 : 1 < l.length)
    (h : ∀ vs h' d tk, (∀ b o, s.heap.get? b = some o → h'.get? b = some o) → s.heap.objs.size < h'.objs.size → (vs.map txtOf).Perm l → (∀ v, v ∈ vs → ∃ x t, v = .str x t) → R vs { s with heap := h', drawn := d, toks := tk }) : wpAny (model prog w) A (collect (.ref r)) R E s := by
  have lr : r < s.heap.objs.size := by refine byEEEA (id hS) fun es ep t e _ => ?_; exact Heap.lt_size e
  unfold collect
  refine wpAny_bind (wpAny_runValue (codeAny_builtin PySem.F.entry_proto_collect ?_))
  rw [Around.under_plainId PySem.F.plain_proto_collect _]
  show wpAny _ A.in1 (PySem.newList [] >>= fun l => again (.builtin "list.__iadd__" ⟨[l, .ref r], []⟩)) _ _ s
  refine wpAny_bind (wpAny_newObj_type (wpAny_pure ⟨plainId_quiet PySem.F.plain_list_iadd _, codeAny_builtin PySem.F.entry_list_iadd ?_⟩))
  rw [Around.under_plainId PySem.F.plain_list_iadd _]
  let G : Result → Shared → Prop := fun q s' => ∃ h' d tk acc c, q = .ok (.ret (.ref s.heap.objs.size)) ∧ s' = { s with heap := h', drawn := d, toks := tk } ∧ (∀ b o, s.heap.get? b = some o → h'.get? b = some o) ∧
    h'.get? s.heap.objs.size = some { cls := .type "list", dict := none, data := .seq acc c, slots := #[] } ∧ (acc.toList.map txtOf).Perm l ∧ (∀ v, v ∈ acc.toList → ∃ x t, v = .str x t)
  have fin : ∀ q s', G q s' → (match (generalizing := false) q with | .ok (.ret v) => wpAny (model prog w) A (match v with | .ref a => do (match (← load a).data with | .seq xs _ => pure xs.toList | _ => unsupported "internal:collect") | _ => unsupported "internal:collect") R E s' | .ok _ => False | .error e => E e s') := fun q s' g => by
    obtain ⟨h', d, tk, acc, c, rfl, rfl, hk, hL, e1, e2⟩ := g
    show wpAny _ A (load s.heap.objs.size >>= _) _ _ _
    exact wpAny_bind (wpAny_load hL (wpAny_pure (h _ _ d _ hk (Heap.lt_size hL) e1 e2)))
  have key := extend_set (s := { s with heap := s.heap.push { cls := .type "list", data := .seq ([] : List Value).toArray } }) (R := G) hh (hS.kp fun o e => Heap.get?_push_of_some _ e) h2 (Heap.get?_push_size _ rfl) (Nat.ne_of_gt lr)
    fun h' d tk acc c hk hL e1 e2 => ⟨h', d, tk, acc, c, rfl, rfl, fun b o e => hk b o (Nat.ne_of_lt (Heap.lt_size e)) (Heap.get?_push_of_some _ e), hL, e1, e2⟩
  refine wpAny_mono key (fun f s' x => ?_) fun e s' x => ?_
  · cases f with
    | done f => exact fin _ _ x
    | again c => exact ⟨x.1, codeAny_mono x.2 fin⟩
  · obtain ⟨_, _, _, _, _, q, _⟩ := x
    cases q
theorem strsAre_map : ∀ {vs : List Value}, (∀ v, v ∈ vs → ∃ x t, v = .str x t) → StrsAre vs (vs.map txtOf)
  | [], _ => .nil
  | v :: vs, h => by
    refine byEE (h v (.head _)) fun x t e => ?_
    subst e
    exact .cons x t (strsAre_map fun v m => h v (.tail _ m))
theorem Inv.drew (i : Inv B A s) (d : Drawn) : Inv B A { s with drawn := d } := ⟨i.good, i.gens, i.os, i.fr⟩
theorem sorted_sset (O : B.Ok) {l : List Str} (h2 : 1 < l.length) (hz : l.length < 64) {r : Addr} {Q : Value → Shared → Prop} {E : Value → Shared → Prop} (rm : Room (k + 1) A) (i : Inv B A s) (hS : SSet B.prog B.w s.heap r l)
    (h : ∀ a s', Inv B A s' → Kp s.heap s'.heap → s.heap.get? a = none → B.n₀ ≤ a → Content B (fun b => V b ∨ b = a) s'.heap (.list (sl (sortS l))) a → Q (.ref a) s') :
    wpAny B.M A (call (.builtin "sorted") [.ref r]) Q E s := by
  refine call_function_entry kind_sorted plain_sorted entry_sorted (args_sorted1 _) ?_
  unfold Builtin.«sorted»
  refine wpAny_bind (m := checkCount "sorted" 1 1 _) (wpAny_pure ?_)
  refine wpAny_bind (collect_set (A := A.in1) (rm.handled (Nat.succ_pos _)) hS h2 fun vs h' d tk hk hge hp hs => ?_)
  have hlen : vs.length = l.length := by rw [← hp.length_eq, List.length_map]
  refine wpAny_bind (wpAny_newList ?_ (by rw [hlen]; exact Nat.le_trans (Nat.le_of_lt hz) (by decide)))
  have kp₂ : ∀ b o, s.heap.get? b = some o → (h'.push { cls := .type "list", data := .seq vs.toArray }).get? b = some o := fun b o e => Heap.get?_push_of_some _ (hk b o e)
  have hoL : (h'.push { cls := .type "list", data := .seq vs.toArray }).get? h'.objs.size = some (seqObj "list" vs.toArray 0) := Heap.get?_push_size _ rfl
  have hSt := strsAre_map hs
  have na : s.heap.get? h'.objs.size = none := by
    cases q : s.heap.get? h'.objs.size with
    | none => rfl
    | some o => exact absurd (Heap.lt_size (hk _ _ q)) (Nat.lt_irrefl _)
  refine wpAny_bind (wpAny_holding (wpAny_call_entry slot_list_sort ⟨_, hoL, rfl⟩ entry_list_sort (list_sort_treeK (s := { s with heap := h'.push { cls := .type "list", data := .seq vs.toArray }, drawn := d, toks := tk }) strKind_oneLt hoL hSt.keysOf (fun v₁ v₂ rest e => keyKind_strs (by rw [← e]; exact hSt)) (by simpa [hlen] using hz) fun st' a1 a2 => ⟨_, rfl, ?_⟩) (args_list_sort _)))
  refine byEAA (sorted_out_str hSt a1 a2) fun ss' e1 e2 e3 => ?_
  have es := sortS_unique (e2.trans hp) (sorted_pair ss' e3)
  subst es
  refine byE (sortedHeap_at (out := (arrOf st').map (·.2)) hoL) fun e he => ?_
  refine byAAAA (made (V := V) (ds := sl (sortS l)) O (i.drew d) (tk := tk) (fun b o eb => by
    have hb := Heap.lt_size (hk _ _ eb)
    rw [sortedHeap_old (Nat.ne_of_lt hb) (by rw [size_push']; exact Nat.lt_succ_of_lt hb)]
    exact kp₂ b o eb) na (Nat.le_of_lt hge) he fun V => lays_strsAre e1) fun b1 b2 b3 b4 b5 => ?_
  exact wpAny_pure ⟨_, rfl, h _ _ b1 b2 b3 b4 b5⟩
theorem EvF.sortedSet (O : B.Ok) {e : Expr} {p1 p2 p3 p4 : Pos} {l : List Str} (bl : BltAt B "sorted" (.builtin "sorted")) (bs : BltAt B "set" (.type "set")) (hK1 : K "sorted" = some .globalImplicit) (hK2 : K "set" = some .globalImplicit) (x : EvB B (k + 1) K Γ e (.list (sl l))) (hl : l.length < 4000)
    (h2 : 1 < (dedS l).length) (hz : (dedS l).length < 64) (hs : noStars [e] = true := by rfl) (ht : notStar e = true := by rfl) :
    EvF B (k + 1) K Γ (.Call (.Name "sorted" p1) [.Call (.Name "set" p2) [e] [] p3] [] p4) (.list (sl (sortS (dedS l)))) := .mk fun A env V s Q E rm eo i g h =>
  Call_ (glob_blt O bl hK1 eo i (callWith_blt (f := .builtin "sorted") (by rfl) (by rfl) (by
    rw [starEach_cons rfl, starEach_nil]
    refine Calls.spliced_cons (Call_ (glob_blt O bs hK2 eo i (callWith_blt (f := .type "set") (by rfl) hs ((EvLB.cons x .nil ht).run p3 A env V s _ E rm eo i g fun vs s₁ i₁ k₁ l₁ => ?_)) (by decide)))
    refine byEA l₁.one fun v hq y => ?_
    subst hq
    refine byEEA y.asList fun a it hq2 hr => ?_
    subst hq2
    refine byA hr fun p q => ?_
    have hi := strsAre_of q
    have z1 : it.size = l.length := by rw [← Array.length_toList, StrsAre.len_eq hi]
    refine call_set_strs (ss := l) (rm.handled (Nat.succ_pos _)) p hi (by rw [z1]; unfold scanBound; omega) fun h' tk hS hk => ?_
    have kp : ∀ b o, s₁.heap.get? b = some o → h'.get? b = some o := fun b o e => hk b o (Heap.lt_size e) e
    have i₂ : Inv B A { s₁ with heap := h', toks := tk } := i₁.keep O (tk := tk) kp
    refine Calls.spliced_nil ?_
    refine sorted_sset O h2 hz (s := { s₁ with heap := h', toks := tk }) rm i₂ hS fun a s₂ i₃ k₂ n₂ lo c₂ => h a s₂ i₃ ((k₁.trans (.of kp)).trans k₂) (fresh_of (k₁.trans (.of kp)) n₂) lo c₂)) (by decide))
end
theorem Ex1.assignK {B : Base} {k : Nat} {K : Kinds} {Γ Γ' : G} {t value : Expr} {p : Pos} {d : D} (x : Ev B k K Γ value d) (y : Asg B k K Γ t d Γ') (hsw : ∀ env, EnvOk K env → swapsWithSole [t] value p.line env = pure false) (hn : notStar t = true := by rfl)
    (hst : ∀ env, swappedStores [t] value env = pure none := by intro _; rfl) : Ex1 B k K Γ (.Assign [t] value p) .next Γ' := .mk fun A env V₀ W s Q E rm eo i st h => by
  refine wpAny_Assign_stores (x.run A env _ s _ E rm eo i st.r fun v s₁ i₁ k₁ l₁ => ?_) (hsw env eo) (hst env)
  rw [assignEach_cons hn]
  exact y.run A env V₀ W s₁ v _ E rm eo i₁ (st.kp k₁) l₁ fun s₂ i₂ d₂ e₂ st₂ => h .next s₂ W i₂ (k₁.dom.trans d₂) ((Ext.of_kp k₁).trans e₂ k₁.dom) st₂ rfl
theorem noSwap {K : Kinds} {elt : Expr} {gens : List Comprehension} {sc : Scope} {pos py : Pos} {y : Str} {line : Nat} (hk : K y = some .cell) (env : Env) (eo : EnvOk K env) :
    swapsWithSole [.Name y py] (.ListComp elt gens sc pos) line env = pure false := by
  have h2 : (env.kindOf y == some .local) = false := by rw [eo.kind, hk]; rfl
  show (pure (env.blockKind == .function && env.kindOf y == some .local && py.line == pos.line && !(sc.names.any fun (n, k) => n == y && (k == .local || k == .cell))) : PySem.Sem Bool) = pure false
  rw [h2, Bool.and_false]
  rfl
end Jv
namespace Jv.L2
open PySem PySem.W PySem.Calls PyProof.Rows
noncomputable def dArgs : Stmt → Arguments
  | .FunctionDef _ a _ _ _ _ _ _ _ _ => a
  | _ => default
noncomputable def dBody : Stmt → List Stmt
  | .FunctionDef _ _ b _ _ _ _ _ _ _ => b
  | _ => []
noncomputable def dScope : Stmt → Scope
  | .FunctionDef _ _ _ _ _ _ s _ _ _ => s
  | _ => default
noncomputable def dAt (i : Nat) : Stmt := PySem.Challenge.pw_rt0079_02.main.body.getD i (.Pass default)
noncomputable abbrev fspath_args : Arguments := dArgs (dAt 9)
noncomputable abbrev fspath_body : List Stmt := dBody (dAt 9)
noncomputable abbrev fspath_scope : Scope := dScope (dAt 9)
noncomputable abbrev d_get_sep_args : Arguments := dArgs (dAt 13)
noncomputable abbrev d_get_sep_body : List Stmt := dBody (dAt 13)
noncomputable abbrev d_get_sep_scope : Scope := dScope (dAt 13)
noncomputable abbrev join_args : Arguments := dArgs (dAt 14)
noncomputable abbrev join_body : List Stmt := dBody (dAt 14)
noncomputable abbrev join_scope : Scope := dScope (dAt 14)
noncomputable abbrev basename_args : Arguments := dArgs (dAt 15)
noncomputable abbrev basename_body : List Stmt := dBody (dAt 15)
noncomputable abbrev basename_scope : Scope := dScope (dAt 15)
noncomputable abbrev dirname_args : Arguments := dArgs (dAt 16)
noncomputable abbrev dirname_body : List Stmt := dBody (dAt 16)
noncomputable abbrev dirname_scope : Scope := dScope (dAt 16)
noncomputable abbrev commonpath_args : Arguments := dArgs (dAt 17)
noncomputable abbrev commonpath_body : List Stmt := dBody (dAt 17)
noncomputable abbrev commonpath_scope : Scope := dScope (dAt 17)
noncomputable abbrev sorted_list_difference_args : Arguments := dArgs (dAt 19)
noncomputable abbrev sorted_list_difference_body : List Stmt := dBody (dAt 19)
noncomputable abbrev sorted_list_difference_scope : Scope := dScope (dAt 19)
noncomputable abbrev d_escape_cdata_args : Arguments := dArgs (dAt 22)
noncomputable abbrev d_escape_cdata_body : List Stmt := dBody (dAt 22)
noncomputable abbrev d_escape_cdata_scope : Scope := dScope (dAt 22)
noncomputable abbrev d_escape_attrib_args : Arguments := dArgs (dAt 23)
noncomputable abbrev d_escape_attrib_body : List Stmt := dBody (dAt 23)
noncomputable abbrev d_escape_attrib_scope : Scope := dScope (dAt 23)
noncomputable abbrev d_escape_attrib_html_args : Arguments := dArgs (dAt 24)
noncomputable abbrev d_escape_attrib_html_body : List Stmt := dBody (dAt 24)
noncomputable abbrev d_escape_attrib_html_scope : Scope := dScope (dAt 24)
noncomputable abbrev d_escape_cdata_c14n_args : Arguments := dArgs (dAt 25)
noncomputable abbrev d_escape_cdata_c14n_body : List Stmt := dBody (dAt 25)
noncomputable abbrev d_escape_cdata_c14n_scope : Scope := dScope (dAt 25)
noncomputable abbrev d_escape_attrib_c14n_args : Arguments := dArgs (dAt 26)
noncomputable abbrev d_escape_attrib_c14n_body : List Stmt := dBody (dAt 26)
noncomputable abbrev d_escape_attrib_c14n_scope : Scope := dScope (dAt 26)
noncomputable abbrev d_law_drawn_args : Arguments := dArgs (dAt 28)
noncomputable abbrev d_law_drawn_body : List Stmt := dBody (dAt 28)
noncomputable abbrev d_law_drawn_scope : Scope := dScope (dAt 28)
noncomputable abbrev d_law_told_args : Arguments := dArgs (dAt 29)
noncomputable abbrev d_law_told_body : List Stmt := dBody (dAt 29)
noncomputable abbrev d_law_told_scope : Scope := dScope (dAt 29)
noncomputable abbrev d_law_written_args : Arguments := dArgs (dAt 30)
noncomputable abbrev d_law_written_body : List Stmt := dBody (dAt 30)
noncomputable abbrev d_law_written_scope : Scope := dScope (dAt 30)
noncomputable abbrev d_law_laid_args : Arguments := dArgs (dAt 31)
noncomputable abbrev d_law_laid_body : List Stmt := dBody (dAt 31)
noncomputable abbrev d_law_laid_scope : Scope := dScope (dAt 31)
noncomputable abbrev d_law_walked_args : Arguments := dArgs (dAt 32)
noncomputable abbrev d_law_walked_body : List Stmt := dBody (dAt 32)
noncomputable abbrev d_law_walked_scope : Scope := dScope (dAt 32)
noncomputable abbrev d_law_done_args : Arguments := dArgs (dAt 33)
noncomputable abbrev d_law_done_body : List Stmt := dBody (dAt 33)
noncomputable abbrev d_law_done_scope : Scope := dScope (dAt 33)
noncomputable abbrev d_law_all_args : Arguments := dArgs (dAt 34)
noncomputable abbrev d_law_all_body : List Stmt := dBody (dAt 34)
noncomputable abbrev d_law_all_scope : Scope := dScope (dAt 34)
noncomputable abbrev d_law_round_args : Arguments := dArgs (dAt 35)
noncomputable abbrev d_law_round_body : List Stmt := dBody (dAt 35)
noncomputable abbrev d_law_round_scope : Scope := dScope (dAt 35)
noncomputable abbrev d_law_orders_args : Arguments := dArgs (dAt 36)
noncomputable abbrev d_law_orders_body : List Stmt := dBody (dAt 36)
noncomputable abbrev d_law_orders_scope : Scope := dScope (dAt 36)
noncomputable abbrev d_law_read_args : Arguments := dArgs (dAt 37)
noncomputable abbrev d_law_read_body : List Stmt := dBody (dAt 37)
noncomputable abbrev d_law_read_scope : Scope := dScope (dAt 37)
noncomputable abbrev law_args : Arguments := dArgs (dAt 38)
noncomputable abbrev law_body : List Stmt := dBody (dAt 38)
noncomputable abbrev law_scope : Scope := dScope (dAt 38)
noncomputable def slash : Str := "/"
noncomputable def joinS (a b : Str) : Str := if (Txt.startswith b slash || !(a.length != 0)) = true then b else if Txt.endswith a slash = true then a ++ b else a ++ (slash ++ b)
noncomputable def bltOf : List (Str × Value) := [("isinstance", .builtin "isinstance"), ("bytes", .type "bytes"), ("str", .type "str"), ("type", .type "type"), ("issubclass", .builtin "issubclass"), ("tuple", .type "tuple"), ("map", .type "map"),
  ("min", .builtin "min"), ("max", .builtin "max"), ("enumerate", .type "enumerate"), ("len", .builtin "len"), ("range", .type "range"), ("divmod", .builtin "divmod"), ("sorted", .builtin "sorted"), ("set", .type "set"), ("int", .type "int"), ("IndexError", .type "IndexError")]
structure Tab (B : Base) : Prop where
  O : B.Ok
  sep : FnAt B "_get_sep" d_get_sep_args d_get_sep_body d_get_sep_scope
  fspath : FnAt B "fspath" fspath_args fspath_body fspath_scope
  join : FnAt B "join" join_args join_body join_scope
  basename : FnAt B "basename" basename_args basename_body basename_scope
  dirname : FnAt B "dirname" dirname_args dirname_body dirname_scope
  commonpath : FnAt B "commonpath" commonpath_args commonpath_body commonpath_scope
  blt : ∀ x f, bltOf.lookup x = some f → BltAt B x f
variable {B : Base} {k : Nat}
theorem c_get_sep (T : Tab B) {x : Str} : Calls B (k + 1) "_get_sep" [.str x] (.str slash) := by
  refine Calls.of (o := .ret (.str slash)) (xs := ["path"]) (Γ' := [("path", .sh (.str x))]) T.O T.sep (.plain (fun _ _ _ => len1 fun _ => rfl)) (by simp) ?_
  (focus (apply Ex.stop; (case' x => apply Ex1.ife; (case x => (apply EvT.val; (apply Ev.b; (apply Ev.blt; exact T.O; exact T.blt _ _ (by rfl); exact rfl; (apply EvLB.cons; (apply EvB.sh; exact rfl; exact rfl; exact rfl); (apply EvLB.cons; (apply Ev.b; (apply Ev.tyName; exact T.O; exact T.blt _ _ (by rfl); exact rfl; exact rfl)); apply EvLB.nil; exact rfl); exact rfl); apply BltR.isBytes; exact rfl; exact rfl; exact rfl)); apply TruR.bool; ((try delta autoParam); intros; rfl))); (case' z => intro hb); (case' y => intro hb)); (case ho => (intro h; cases h; done))))
  · cases hb
  · (focus (apply Ex.stop; (case' x => (apply Ex1.ret; apply Ev.cstr)); (case ho => (intro h; cases h; done))))
theorem c_fspath (T : Tab B) {x : Str} : Calls B (k + 1) "fspath" [.str x] (.str x) := by
  refine Calls.of (o := .ret (.str x)) (xs := ["path"]) (Γ' := [("path", .sh (.str x)), ("kind", .sh (.ty "str"))]) T.O T.fspath (.plain (fun _ _ _ => len1 fun _ => rfl)) (by simp) ?_
  (focus (apply Ex.cons; (case' x => (apply Ex1.assign; (apply Ev.blt; exact T.O; exact T.blt _ _ (by rfl); exact rfl; (apply EvLB.cons; (apply EvB.sh; exact rfl; exact rfl; exact rfl); apply EvLB.nil; exact rfl); apply BltR.typeStr; exact rfl; exact rfl; exact rfl); (apply Asg.name; exact T.O; decide); exact rfl; ((try delta autoParam); intros; rfl); ((try delta autoParam); intros; rfl)))))
  (focus (apply Ex.stop; (case' x => apply Ex1.ife; (case x => (apply EvT.val; (apply Ev.b; (apply Ev.blt; exact T.O; exact T.blt _ _ (by rfl); exact rfl; (apply EvLB.cons; (apply EvB.sh; exact rfl; exact rfl; exact rfl); (apply EvLB.cons; (apply Ev.b; (apply Ev.tup; exact T.O; (apply EvL.cons; (apply Ev.tyName; exact T.O; exact T.blt _ _ (by rfl); exact rfl; exact rfl); (apply EvL.cons; (apply Ev.tyName; exact T.O; exact T.blt _ _ (by rfl); exact rfl; exact rfl); apply EvL.nil; exact rfl); exact rfl); exact Nat.le_of_ble_eq_true rfl)); apply EvLB.nil; exact rfl); exact rfl); apply BltR.issub; exact rfl; exact rfl; exact rfl)); apply TruR.bool; ((try delta autoParam); intros; rfl))); (case' z => intro hb); (case' y => intro hb)); (case ho => (intro h; cases h; done))))
  · (focus (apply Ex.stop; (case' x => (apply Ex1.ret; (apply Ev.name; exact rfl; exact rfl; exact rfl))); (case ho => (intro h; cases h; done))))
  · cases hb
theorem b_star (pm cd doc v vs) : bindArgs (docDef "join" join_args join_body join_scope pm cd doc) ⟨v :: vs, []⟩ = (fun t => [(("a" : Str), v), ("p", t)]) <$> newTuple vs := by
  cases vs <;> rfl
theorem str_len (a b : Str) : (a ++ b).length = a.length + b.length := by
  show (a.cps ++ b.cps).size = _
  simp [Str.length]
theorem c_join (T : Tab B) {a b : Str} (hz : a.length + b.length + 1 ≤ sizeLine) : Calls B (k + 3) "join" [.str a, .str b] (.str (joinS a b)) := by
  have hs : slash.length = 1 := rfl
  refine Calls.of (o := .ret (.str (joinS a b))) (xs := ["a", "p"]) (Γ' := [("a", .sh (.str a)), ("p", .sh (.tup [.str b])), ("sep", .sh (.str slash)), ("path", .sh (.str (joinS a b))), ("b", .sh (.str b))]) T.O T.join (.star (ds := [.str b]) T.O b_star (show 1 ≤ sizeLine by decide)) (by simp) ?_
  (focus (apply Ex.cons; (case' x => (apply Ex1.assign; (focus (apply Ev.call; (case hK => exact rfl); (case y => (apply EvL.cons; (apply Ev.name; exact rfl; exact rfl; exact rfl); apply EvL.nil; exact rfl)); (case O => exact T.O); (case F => exact ⟨_, _, _, T.fspath⟩); (case c => exact c_fspath T); exact rfl; exact rfl)); (apply Asg.name; exact T.O; decide); exact rfl; ((try delta autoParam); intros; rfl); ((try delta autoParam); intros; rfl))))); (focus (apply Ex.cons; (case' x => (apply Ex1.assign; (focus (apply Ev.call; (case hK => exact rfl); (case y => (apply EvL.cons; (apply Ev.name; exact rfl; exact rfl; exact rfl); apply EvL.nil; exact rfl)); (case O => exact T.O); (case F => exact ⟨_, _, _, T.sep⟩); (case c => exact c_get_sep T); exact rfl; exact rfl)); (apply Asg.name; exact T.O; decide); exact rfl; ((try delta autoParam); intros; rfl); ((try delta autoParam); intros; rfl))))); (focus (apply Ex.cons; (case' x => (apply Ex1.assign; (apply Ev.name; exact rfl; exact rfl; exact rfl); (apply Asg.name; exact T.O; decide); exact rfl; ((try delta autoParam); intros; rfl); ((try delta autoParam); intros; rfl)))))
  refine Ex.cons (Γ₁ := [("a", .sh (.str a)), ("p", .sh (.tup [.str b])), ("sep", .sh (.str slash)), ("path", .sh (.str (joinS a b))), ("b", .sh (.str b))]) (Ex1.try_ (Ex.cons (Ex1.for_ (EvI.tuple T.O (ds := [.str b]) (Ev.name (by rfl))) (.step (Asg.name T.O (.inl (by rfl))) ?_ .done)) .nil)) (Ex.stop (Ex1.ret (Ev.name (by rfl))) (by simp))
  (focus (apply Ex.cons; (case' x => (apply Ex1.assign; (focus (apply Ev.call; (case hK => exact rfl); (case y => (apply EvL.cons; (apply Ev.name; exact rfl; exact rfl; exact rfl); apply EvL.nil; exact rfl)); (case O => exact T.O); (case F => exact ⟨_, _, _, T.fspath⟩); (case c => exact c_fspath T); exact rfl; exact rfl)); (apply Asg.name; exact T.O; decide); exact rfl; ((try delta autoParam); intros; rfl); ((try delta autoParam); intros; rfl))))); (focus (apply Ex.cons; (case y => apply Ex.nil); (case' x => apply Ex1.ife; (case x => (apply EvT.bool; (apply EvA.or; (apply EvT.val; (apply Ev.b; (apply Ev.meth; (apply EvB.sh; exact rfl; exact rfl; exact rfl); (apply EvLB.cons; (apply EvB.sh; exact rfl; exact rfl; exact rfl); apply EvLB.nil; exact rfl); apply Meth.startswith; apply OfType.str; apply BltR.startswith; exact rfl; ((try delta autoParam); intros; rfl); exact rfl; exact Nat.le_of_ble_eq_true rfl)); apply TruR.bool; ((try delta autoParam); intros; rfl)); (intros; (apply EvA.or; (apply EvT.not; (apply EvT.val; (apply EvB.sh; exact rfl; exact rfl; exact rfl); (apply TruR.str; omega); ((try delta autoParam); intros; rfl))); (intros; apply EvA.nil)))))); (case' z => intro hb); (case' y => intro hb))))
  · have e : joinS a b = b := if_pos (by simpa using hb)
    rw [e]
    (focus (apply Ex.cons; (case y => apply Ex.nil); (case' x => (apply Ex1.assign; (apply Ev.name; exact rfl; exact rfl; exact rfl); (apply Asg.name; exact T.O; decide); exact rfl; ((try delta autoParam); intros; rfl); ((try delta autoParam); intros; rfl)))))
  · have h' : ¬ (Txt.startswith b slash || !(a.length != 0)) = true := by simpa using hb
    clear hb
    (focus (apply Ex.cons; (case y => apply Ex.nil); (case' x => apply Ex1.ife; (case x => (apply EvT.val; (apply Ev.b; (apply Ev.meth; (apply EvB.sh; exact rfl; exact rfl; exact rfl); (apply EvLB.cons; (apply EvB.sh; exact rfl; exact rfl; exact rfl); apply EvLB.nil; exact rfl); apply Meth.endswith; apply OfType.str; apply BltR.endswith; exact rfl; ((try delta autoParam); intros; rfl); exact rfl; exact Nat.le_of_ble_eq_true rfl)); apply TruR.bool; ((try delta autoParam); intros; rfl))); (case' z => intro hb); (case' y => intro hb))))
    · have e : joinS a b = a ++ b := by unfold joinS; rw [if_neg h', if_pos hb]
      rw [e]
      (focus (apply Ex.cons; (case y => apply Ex.nil); (case' x => (apply Ex1.aug; exact T.O; exact rfl; (apply EvB.sh; exact rfl; exact rfl; exact rfl); (apply InpR.add_str; omega); decide; exact rfl))))
    · have e : joinS a b = a ++ (slash ++ b) := by unfold joinS; rw [if_neg h', if_neg (by simp [hb])]
      rw [e]
      have hr : a.length + (slash ++ b).length ≤ sizeLine := by rw [str_len]; omega
      (focus (apply Ex.cons; (case y => apply Ex.nil); (case' x => (apply Ex1.aug; exact T.O; exact rfl; (apply Ev.b; (apply Ev.bin; (apply EvB.sh; exact rfl; exact rfl; exact rfl); (apply EvB.sh; exact rfl; exact rfl; exact rfl); (apply BinR.add_str; omega))); (apply InpR.add_str; (with_reducible assumption)); decide; exact rfl))))
noncomputable def headI (p : Str) : Int := Txt.rfind p slash + 1
noncomputable def baseS (p : Str) : Str := cutS p (some (headI p)) none
theorem c_basename (T : Tab B) {p : Str} (hz : p.length ≤ sizeLine) : Calls B (k + 3) "basename" [.str p] (.str (baseS p)) := by
  refine Calls.of (o := .ret (.str (baseS p))) (xs := ["p"]) (Γ' := [("p", .sh (.str p)), ("sep", .sh (.str slash)), ("i", .sh (.int (headI p)))]) T.O T.basename (.plain (fun _ _ _ => len1 fun _ => rfl)) (by simp) ?_
  (focus (apply Ex.cons; (case' x => (apply Ex1.assign; (focus (apply Ev.call; (case hK => exact rfl); (case y => (apply EvL.cons; (apply Ev.name; exact rfl; exact rfl; exact rfl); apply EvL.nil; exact rfl)); (case O => exact T.O); (case F => exact ⟨_, _, _, T.fspath⟩); (case c => exact c_fspath T); exact rfl; exact rfl)); (apply Asg.name; exact T.O; decide); exact rfl; ((try delta autoParam); intros; rfl); ((try delta autoParam); intros; rfl))))); (focus (apply Ex.cons; (case' x => (apply Ex1.assign; (focus (apply Ev.call; (case hK => exact rfl); (case y => (apply EvL.cons; (apply Ev.name; exact rfl; exact rfl; exact rfl); apply EvL.nil; exact rfl)); (case O => exact T.O); (case F => exact ⟨_, _, _, T.sep⟩); (case c => exact c_get_sep T); exact rfl; exact rfl)); (apply Asg.name; exact T.O; decide); exact rfl; ((try delta autoParam); intros; rfl); ((try delta autoParam); intros; rfl))))); (focus (apply Ex.cons; (case' x => (apply Ex1.assign; (apply Ev.bin; (apply Ev.b; (apply Ev.meth; (apply EvB.sh; exact rfl; exact rfl; exact rfl); (apply EvLB.cons; (apply EvB.sh; exact rfl; exact rfl; exact rfl); apply EvLB.nil; exact rfl); apply Meth.rfind; apply OfType.str; apply BltR.rfind; exact rfl; ((try delta autoParam); intros; rfl); exact rfl; exact Nat.le_of_ble_eq_true rfl)); (apply Ev.b; apply Ev.cint); apply BinR.add_int); (apply Asg.name; exact T.O; decide); exact rfl; ((try delta autoParam); intros; rfl); ((try delta autoParam); intros; rfl)))))
  (focus (apply Ex.stop; (case' x => (apply Ex1.ret; (apply Ev.slice; exact T.O; (apply EvB.sh; exact rfl; exact rfl; exact rfl); (apply EvP.some; (apply Ev.name; exact rfl; exact rfl; exact rfl)); apply EvP.none; (with_reducible assumption)))); (case ho => (intro h; cases h; done))))
noncomputable def hd (p : Str) : Str := cutS p none (some (headI p))
noncomputable def dirS (p : Str) : Str := if ((hd p).length != 0 && hd p != Txt.mul slash (hd p).length) = true then Txt.rstripChars (hd p) slash else hd p
theorem mulOk_slash {n : Nat} (hn : n ≤ sizeLine) : MulOk slash n := by
  have hs : slash.length = 1 := rfl
  have h1 : sizeLine < 2 ^ 62 := by decide
  refine ⟨?_, fun _ _ => ?_, fun _ _ => ?_⟩
  · simp; omega
  · rw [hs]
    have : (1 : Int) ≤ (2 ^ 63 - 1) / (n : Int) := by
      refine (Int.le_ediv_iff_mul_le (by omega)).mpr (by omega)
    omega
  · rw [hs]; unfold Builtin.Str.tooLong; simp; omega
theorem c_dirname (T : Tab B) {p : Str} (hz : p.length ≤ sizeLine) : Calls B (k + 3) "dirname" [.str p] (.str (dirS p)) := by
  have hc : (cutS p none (some (Txt.rfind p slash + 1))).length ≤ sizeLine := Nat.le_trans (cutS_le _ _ _) hz
  refine Calls.of (o := .ret (.str (dirS p))) (xs := ["p"]) (Γ' := [("p", .sh (.str p)), ("sep", .sh (.str slash)), ("i", .sh (.int (headI p))), ("head", .sh (.str (dirS p)))]) T.O T.dirname (.plain (fun _ _ _ => len1 fun _ => rfl)) (by simp) ?_
  (focus (apply Ex.cons; (case' x => (apply Ex1.assign; (focus (apply Ev.call; (case hK => exact rfl); (case y => (apply EvL.cons; (apply Ev.name; exact rfl; exact rfl; exact rfl); apply EvL.nil; exact rfl)); (case O => exact T.O); (case F => exact ⟨_, _, _, T.fspath⟩); (case c => exact c_fspath T); exact rfl; exact rfl)); (apply Asg.name; exact T.O; decide); exact rfl; ((try delta autoParam); intros; rfl); ((try delta autoParam); intros; rfl))))); (focus (apply Ex.cons; (case' x => (apply Ex1.assign; (focus (apply Ev.call; (case hK => exact rfl); (case y => (apply EvL.cons; (apply Ev.name; exact rfl; exact rfl; exact rfl); apply EvL.nil; exact rfl)); (case O => exact T.O); (case F => exact ⟨_, _, _, T.sep⟩); (case c => exact c_get_sep T); exact rfl; exact rfl)); (apply Asg.name; exact T.O; decide); exact rfl; ((try delta autoParam); intros; rfl); ((try delta autoParam); intros; rfl))))); (focus (apply Ex.cons; (case' x => (apply Ex1.assign; (apply Ev.bin; (apply Ev.b; (apply Ev.meth; (apply EvB.sh; exact rfl; exact rfl; exact rfl); (apply EvLB.cons; (apply EvB.sh; exact rfl; exact rfl; exact rfl); apply EvLB.nil; exact rfl); apply Meth.rfind; apply OfType.str; apply BltR.rfind; exact rfl; ((try delta autoParam); intros; rfl); exact rfl; exact Nat.le_of_ble_eq_true rfl)); (apply Ev.b; apply Ev.cint); apply BinR.add_int); (apply Asg.name; exact T.O; decide); exact rfl; ((try delta autoParam); intros; rfl); ((try delta autoParam); intros; rfl))))); (focus (apply Ex.cons; (case' x => (apply Ex1.assign; (apply Ev.slice; exact T.O; (apply EvB.sh; exact rfl; exact rfl; exact rfl); apply EvP.none; (apply EvP.some; (apply Ev.name; exact rfl; exact rfl; exact rfl)); (with_reducible assumption)); (apply Asg.name; exact T.O; decide); exact rfl; ((try delta autoParam); intros; rfl); ((try delta autoParam); intros; rfl)))))
  refine Ex.cons (Γ₁ := [("p", .sh (.str p)), ("sep", .sh (.str slash)), ("i", .sh (.int (headI p))), ("head", .sh (.str (dirS p)))]) ?_ (by (focus (apply Ex.stop; (case' x => (apply Ex1.ret; (apply Ev.name; exact rfl; exact rfl; exact rfl))); (case ho => (intro h; cases h; done)))))
  have hm := mulOk_slash hc
  (focus (apply Ex1.ife; (case x => (apply EvT.bool; (apply EvA.and; (apply EvT.val; (apply EvB.sh; exact rfl; exact rfl; exact rfl); (apply TruR.str; (with_reducible assumption)); ((try delta autoParam); intros; rfl)); (intros; (apply EvA.and; (apply EvT.cmp; (apply EvB.sh; exact rfl; exact rfl; exact rfl); (apply Ev.b; (apply Ev.bin; (apply EvB.sh; exact rfl; exact rfl; exact rfl); (apply Ev.b; (apply Ev.blt; exact T.O; exact T.blt _ _ (by rfl); exact rfl; (apply EvLB.cons; (apply EvB.sh; exact rfl; exact rfl; exact rfl); apply EvLB.nil; exact rfl); (apply BltR.lenStr; (with_reducible assumption)); exact rfl; exact rfl; exact rfl)); (apply BinR.mul_str; (with_reducible assumption)))); apply CmpR.ne_str; exact rfl); (intros; apply EvA.nil)))))); (case' z => intro hb); (case' y => intro hb)))
  · have e : dirS p = Txt.rstripChars (hd p) slash := if_pos (by simpa [hd, headI] using hb)
    rw [e]
    (focus (apply Ex.cons; (case y => apply Ex.nil); (case' x => (apply Ex1.assign; (apply Ev.meth; (apply EvB.sh; exact rfl; exact rfl; exact rfl); (apply EvLB.cons; (apply EvB.sh; exact rfl; exact rfl; exact rfl); apply EvLB.nil; exact rfl); apply Meth.rstrip; apply OfType.str; (apply BltR.rstrip; (with_reducible assumption)); exact rfl; ((try delta autoParam); intros; rfl); exact rfl; exact Nat.le_of_ble_eq_true rfl); (apply Asg.name; exact T.O; decide); exact rfl; ((try delta autoParam); intros; rfl); ((try delta autoParam); intros; rfl)))))
  · have e : dirS p = hd p := if_neg (by simpa [hd, headI] using hb)
    rw [e]
    exact Ex.nil
noncomputable def curdir : Str := "."
noncomputable def keepC (c : Str) : Bool := c.length != 0 && (c != curdir && (BoolOp.And == BoolOp.And))
noncomputable def parts (p : Str) : List Str := (Txt.split p slash).filter keepC
noncomputable def commS (l : List Str) : Str := slash ++ Txt.join slash (commonL (l.map parts))
structure CpOk (l : List Str) : Prop where
  ne : l ≠ []
  len : l.length ≤ 1000
  abs : ∀ p, p ∈ l → Txt.startswith p slash = true
  sz : ∀ p, p ∈ l → p.length ≤ sizeLine
  ps : ∀ p, p ∈ l → (Builtin.Str.partsBetween p (Builtin.Str.occurrences p slash 0 p.length (p.length + 1)) slash.length).length ≤ sizeLine
  pl : ∀ p, p ∈ l → (Txt.split p slash).length ≤ sizeLine
  cs : ∀ p, p ∈ l → ∀ c, c ∈ Txt.split p slash → c.length ≤ sizeLine
  jo : JoinOk slash (commonL (l.map parts)) = true
  jl : (Txt.join slash (commonL (l.map parts))).length + 1 ≤ sizeLine
set_option maxHeartbeats 2000000 in
theorem c_commonpath (T : Tab B) {l : List Str} (h : CpOk l) : Calls B (k + 6) "commonpath" [.list (sl l)] (.str (commS l)) := by
  have hl := h.len
  have hs : 1000 ≤ sizeLine := by decide
  refine Calls.of (o := .ret (.str (commS l))) (xs := ["paths"]) (Γ' := []) T.O T.commonpath (.plain (fun _ _ _ => len1 fun _ => rfl)) (by simp) ?_
  refine Ex.cons (Ex1.assign (Ev.tupMap (k := k) T.O (T.blt _ _ (by rfl)) (by rfl) (T.blt _ _ (by rfl)) (by rfl) (by rfl) (EvB.sh (by rfl)) (fun x _ => c_fspath T) ?_ (by omega)) (Asg.name T.O (.inl (by rfl)))) ?_
  · (refine byEE (T.fspath) fun fa _ hr1 => ?_; refine byEEA (hr1) fun _ _ e _ => ?_; (try clear hr1))
    exact ⟨fa, e⟩
  (refine byEE (List.exists_cons_of_ne_nil h.ne) fun p₀ l' hq2 => ?_; subst hq2)
  have hz : (sl (p₀ :: l')).length ≤ sizeLine := by simp only [sl, List.length_map]; omega
  refine Ex.cons (Γ₁ := [("paths", .sh (.tup (sl (p₀ :: l'))))]) ?_ ?_
  · (focus (apply Ex1.ife; (case x => (apply EvT.not; (apply EvT.val; (apply EvB.sh; exact rfl; exact rfl; exact rfl); (apply TruR.tup; (with_reducible assumption)); ((try delta autoParam); intros; rfl)))); (case' z => intro hb); (case' y => intro hb)))
    · cases hb
    · exact Ex.nil
  refine Ex.cons (Γ₁ := [("paths", .sh (.tup (sl (p₀ :: l')))), ("sep", .sh (.str slash)), ("curdir", .sh (.str curdir))]) ?_ ?_
  · (focus (apply Ex1.ife; (case x => (apply EvT.val; (apply Ev.b; (apply Ev.blt; exact T.O; exact T.blt _ _ (by rfl); exact rfl; (apply EvLB.cons; (apply Ev.b; (apply Ev.sub; (apply EvB.sh; exact rfl; exact rfl; exact rfl); (apply Ev.b; apply Ev.cint); (apply SubR.tup; decide; decide; exact rfl); exact rfl)); (apply EvLB.cons; (apply Ev.b; (apply Ev.tyName; exact T.O; exact T.blt _ _ (by rfl); exact rfl; exact rfl)); apply EvLB.nil; exact rfl); exact rfl); apply BltR.isBytes; exact rfl; exact rfl; exact rfl)); apply TruR.bool; ((try delta autoParam); intros; rfl))); (case' z => intro hb); (case' y => intro hb)))
    · cases hb
    · (focus (apply Ex.cons; (case' x => (apply Ex1.assign; apply Ev.cstr; (apply Asg.name; exact T.O; decide); exact rfl; ((try delta autoParam); intros; rfl); ((try delta autoParam); intros; rfl))))); (focus (apply Ex.cons; (case y => apply Ex.nil); (case' x => (apply Ex1.assign; apply Ev.cstr; (apply Asg.name; exact T.O; decide); exact rfl; ((try delta autoParam); intros; rfl); ((try delta autoParam); intros; rfl)))))
  refine Ex.stop (Ex1.try_ ?_) (by simp)
  refine Ex.cons (Ex1.assignC (cx := false) (out := (p₀ :: l').map fun p => .list (sl (Txt.split p slash))) T.O (EvIB.tuple T.O (Ev.name (by rfl))) (by exact ScOk.of (by rfl) (by rfl) (by rfl) (by intros; rfl) (by intros; rfl)) (by rfl) (CompR.map D.str _ (p₀ :: l') fun p m => ?_) (by simpa [sl] using hz) (.inl (by rfl)) (by intros; rfl) (fun env eo => swapsC (by rfl) (by rfl) (by rfl) env eo)) ?_
  · have := h.sz p m
    have := h.ps p m
    (apply EvF.ev; (apply EvF.meth; (apply EvB.sh; exact rfl; exact rfl; exact rfl); (apply EvLB.cons; (apply EvB.sh; exact rfl; exact rfl; exact rfl); apply EvLB.nil; exact rfl); apply Meth.split; apply OfType.str; (apply BltF.split; exact T.O; exact rfl; (with_reducible assumption); (with_reducible assumption)); exact rfl; ((try delta autoParam); intros; rfl); exact rfl; exact Nat.le_of_ble_eq_true rfl))
  refine Ex.cons (Ex1.try_ (Ex.cons (Ex1.unpackSet (cx := false) (b := true) (out := (p₀ :: l').map fun p => .bool (Txt.startswith p slash)) T.O (EvIB.tuple T.O (Ev.name (by rfl))) (by exact ScOk.of (by rfl) (by rfl) (by rfl) (by intros; rfl) (by intros; rfl)) (by rfl) (CompR.map D.str _ (p₀ :: l') fun p m => ?_) ?_ (by simp) (.inl (by rfl)) (by intros; rfl)) .nil)) ?_
  · (apply Ev.meth; (apply EvB.sh; exact rfl; exact rfl; exact rfl); (apply EvLB.cons; (apply EvB.sh; exact rfl; exact rfl; exact rfl); apply EvLB.nil; exact rfl); apply Meth.startswith; apply OfType.str; apply BltR.startswith; exact rfl; ((try delta autoParam); intros; rfl); exact rfl; exact Nat.le_of_ble_eq_true rfl)
  · intro d m
    (refine byEA (List.mem_map.mp m) fun p mp hq3 => ?_; subst hq3)
    rw [h.abs p mp]
  refine Ex.cons (Ex1.assignC (cx := false) (out := lsl ((p₀ :: l').map parts)) T.O (EvIB.list T.O (EvB.own (by rfl))) (by exact ScOk.of (by rfl) (by rfl) (by rfl) (by intros; rfl) (by intros; rfl)) (by rfl) ?_ (by simpa [lsl, sl] using hz) (.inl (by rfl)) (by intros; rfl) (fun env eo => swapsC (by rfl) (by rfl) (by rfl) env eo)) ?_
  · have e : lsl ((p₀ :: l').map parts) = (p₀ :: l').map fun p => .list (sl (parts p)) := by simp [lsl]
    rw [e]
    refine CompR.map (fun p => D.list (sl (Txt.split p slash))) _ (p₀ :: l') fun p m => ?_
    refine EvF.ev (EvF.comp (cx := false) T.O (EvIB.list T.O (EvB.sh (by rfl))) (by exact ScOk.of (by rfl) (by rfl) (by rfl) (by intros; rfl) (by intros; rfl)) (by rfl) (CompR.of D.str keepC D.str (Txt.split p slash) (fun c mc => ?_) (fun c mc _ => ?_)) ?_ (by intros; rfl))
    · have := h.cs p m c mc
      (apply EvIfs.one; (apply EvT.bool; (apply EvA.and; (apply EvT.val; (apply EvB.sh; exact rfl; exact rfl; exact rfl); (apply TruR.str; (with_reducible assumption)); ((try delta autoParam); intros; rfl)); (intros; (apply EvA.and; (apply EvT.cmp; (apply EvB.sh; exact rfl; exact rfl; exact rfl); (apply EvB.sh; exact rfl; exact rfl; exact rfl); apply CmpR.ne_str; exact rfl); (intros; apply EvA.nil))))))
    · (apply Ev.name; exact rfl; exact rfl; exact rfl)
    · show ((parts p).map D.str).length ≤ _
      rw [List.length_map]
      exact Nat.le_trans (List.length_filter_le _ _) (h.pl p m)
  have hne : (p₀ :: l').map parts ≠ [] := by simp
  have hlt := min_le_max hne
  have hcl : commonL ((p₀ :: l').map parts) = lcp (minL ((p₀ :: l').map parts)) (maxL ((p₀ :: l').map parts)) := rfl
  have hj := h.jo
  have hjl := h.jl
  unfold commS
  have hsz : (minL ((p₀ :: l').map parts)).length ≤ sizeLine := by
    refine byEA (List.mem_map.mp (minL_mem hne)) fun p m e => ?_
    rw [← e]
    exact Nat.le_trans (List.length_filter_le _ _) (h.pl p m)
  (focus (apply Ex.cons; (case' x => (apply Ex1.assign; (apply Ev.blt; exact T.O; exact T.blt _ _ (by rfl); exact rfl; (apply EvLB.cons; (apply EvB.own; exact rfl; exact rfl; exact rfl); apply EvLB.nil; exact rfl); (apply BltR.minL; exact T.O; (with_reducible assumption)); exact rfl; exact rfl; exact rfl); (apply Asg.name; exact T.O; decide); exact rfl; ((try delta autoParam); intros; rfl); ((try delta autoParam); intros; rfl))))); (focus (apply Ex.cons; (case' x => (apply Ex1.assign; (apply Ev.blt; exact T.O; exact T.blt _ _ (by rfl); exact rfl; (apply EvLB.cons; (apply EvB.own; exact rfl; exact rfl; exact rfl); apply EvLB.nil; exact rfl); (apply BltR.maxL; exact T.O; (with_reducible assumption)); exact rfl; exact rfl; exact rfl); (apply Asg.name; exact T.O; decide); exact rfl; ((try delta autoParam); intros; rfl); ((try delta autoParam); intros; rfl))))); (focus (apply Ex.cons; (case' x => (apply Ex1.assign; (apply Ev.name; exact rfl; exact rfl; exact rfl); (apply Asg.name; exact T.O; decide); exact rfl; ((try delta autoParam); intros; rfl); ((try delta autoParam); intros; rfl)))))
  generalize minL ((p₀ :: l').map parts) = s1 at *
  generalize maxL ((p₀ :: l').map parts) = s2 at *
  generalize commonL ((p₀ :: l').map parts) = cc at *
  subst hcl
  refine Ex.cons (Γ₁ := [("paths", .sh (.tup (sl (p₀ :: l')))), ("sep", .sh (.str slash)), ("curdir", .sh (.str curdir)), ("split_paths", .own none (.list (lsl ((p₀ :: l').map parts)))), ("isabs", .sh (.bool true)), ("s1", .sh (.list (sl s1))), ("s2", .sh (.list (sl s2))), ("common", .sh (.list (sl (lcp s1 s2))))])
    (Ex1.for_ (EvI.enum T.O (T.blt _ _ (by rfl)) (by rfl) (EvL.cons (Ev.name (by rfl)) .nil)) ?_) ?_
  · refine (?_ : ∀ (rest p rest2 : List Str) (hp : s1 = p ++ rest) (hq : s2 = p ++ rest2), Loop B _ _ _ _ _ (numD p.length (sl rest)) .next _) s1 [] s2 rfl rfl
    intro rest
    induction rest with
    | nil =>
      intro p rest2 hp hq
      have e : lcp s1 s2 = s1 := by
        have := lcp_app p [] rest2
        rw [← hq, ← hp, lcp_nil, List.append_nil] at this
        rw [this, hp, List.append_nil]
      rw [e]
      exact .done
    | cons c rest IH =>
      intro p rest2 hp hq
      cases rest2 with
      | nil =>
        rw [hp, hq, List.append_nil, lt_app] at hlt
        cases hlt
      | cons d rest2 =>
        have hd : (sl s2)[((p.length : Nat) : Int).toNat]? = some (.str d) := by simp [sl, hq]
        have hpl : p.length ≤ s1.length := by rw [hp]; simp
        have hpz : ((p.length : Nat) : Int) < 2 ^ 63 := by
          have : sizeLine < 2 ^ 62 := by decide
          omega
        have h0 : (0 : Int) ≤ ((p.length : Nat) : Int) := Int.natCast_nonneg _
        by_cases e : c = d
        · subst e
          apply Loop.step'
          · have := IH (p ++ [c]) rest2 (by rw [hp]; simp) (by rw [hq]; simp)
            rw [List.length_append] at this
            exact this
          · (apply Asg.tup; exact T.O; (apply AsgL.cons; (apply Asg.name; exact T.O; decide); (apply AsgL.cons; (apply Asg.name; exact T.O; decide); apply AsgL.nil; exact rfl); exact rfl); exact rfl; exact rfl)
          · apply Ex.weak
            · (focus (apply Ex.cons; (case y => apply Ex.nil); (case' x => apply Ex1.ife; (case x => (apply EvT.cmp; (apply EvB.sh; exact rfl; exact rfl; exact rfl); (apply Ev.b; (apply Ev.sub; (apply EvB.sh; exact rfl; exact rfl; exact rfl); (apply EvB.sh; exact rfl; exact rfl; exact rfl); (apply SubR.list; (with_reducible assumption); (with_reducible assumption); (with_reducible assumption)); exact rfl)); apply CmpR.ne_str; exact rfl)); (case' z => intro hb); (case' y => intro hb))))
              · exact absurd hb (by simp)
              · exact Ex.nil
            · exact fun y s hy => weakApp (X := [_, _]) hy
        · have e1 : lcp s1 s2 = p := by rw [hp, hq, lcp_app, lcp_ne _ _ e, List.append_nil]
          have e2 : sl (lcp s1 s2) = cut (sl s1) none (some ((p.length : Nat) : Int)) := by
            rw [cut_take _ (by simpa [sl] using hpl), e1, hp]
            simp [sl]
          rw [e2]
          have hzs : (sl s1).length ≤ sizeLine := by simpa [sl] using hsz
          apply Loop.brk
          · (apply Asg.tup; exact T.O; (apply AsgL.cons; (apply Asg.name; exact T.O; decide); (apply AsgL.cons; (apply Asg.name; exact T.O; decide); apply AsgL.nil; exact rfl); exact rfl); exact rfl; exact rfl)
          · refine Ex.weak (Γ' := [("paths", .sh (.tup (sl (p₀ :: l')))), ("sep", .sh (.str slash)), ("curdir", .sh (.str curdir)), ("split_paths", .own none (.list (lsl ((p₀ :: l').map parts)))), ("isabs", .sh (.bool true)), ("s1", .sh (.list (sl s1))), ("s2", .sh (.list (sl s2))), ("common", .sh (.list (cut (sl s1) none (some ((p.length : Nat) : Int))))), ("i", .sh (.int p.length)), ("c", .sh (.str c))]) ?_ (fun y s hy => weakApp (X := [_, _]) hy)
            (focus (apply Ex.stop; (case' x => apply Ex1.ife; (case x => (apply EvT.cmp; (apply EvB.sh; exact rfl; exact rfl; exact rfl); (apply Ev.b; (apply Ev.sub; (apply EvB.sh; exact rfl; exact rfl; exact rfl); (apply EvB.sh; exact rfl; exact rfl; exact rfl); (apply SubR.list; (with_reducible assumption); (with_reducible assumption); (with_reducible assumption)); exact rfl)); apply CmpR.ne_str; exact rfl)); (case' z => intro hb); (case' y => intro hb)); (case ho => (intro h; cases h; done))))
            · (focus (apply Ex.cons; (case' x => (apply Ex1.assign; (apply EvF.ev; (apply EvF.slice; exact T.O; (apply EvB.sh; exact rfl; exact rfl; exact rfl); apply EvP.none; (apply EvP.some; (apply Ev.name; exact rfl; exact rfl; exact rfl)); (with_reducible assumption))); (apply Asg.name; exact T.O; decide); exact rfl; ((try delta autoParam); intros; rfl); ((try delta autoParam); intros; rfl)))))
              exact Ex.stop Ex1.brk (by simp)
            · simp [e] at hb
  · (focus (apply Ex.cons; (case' x => (apply Ex1.assign; (apply Ev.ite_t; (apply EvT.val; (apply EvB.sh; exact rfl; exact rfl; exact rfl); apply TruR.bool; ((try delta autoParam); intros; rfl)); (apply Ev.name; exact rfl; exact rfl; exact rfl)); (apply Asg.name; exact T.O; decide); exact rfl; ((try delta autoParam); intros; rfl); ((try delta autoParam); intros; rfl)))))
    have hsl : slash.length = 1 := rfl
    apply Ex.weak
    · (focus (apply Ex.stop; (case' x => (apply Ex1.ret; (apply Ev.bin; (apply EvB.sh; exact rfl; exact rfl; exact rfl); (apply Ev.b; (apply Ev.meth; (apply EvB.sh; exact rfl; exact rfl; exact rfl); (apply EvLB.cons; (apply EvB.sh; exact rfl; exact rfl; exact rfl); apply EvLB.nil; exact rfl); apply Meth.join; apply OfType.str; (apply BltR.join; (with_reducible assumption)); exact rfl; ((try delta autoParam); intros; rfl); exact rfl; exact Nat.le_of_ble_eq_true rfl)); (apply BinR.add_str; omega)))); (case ho => (intro h; cases h; done))))
    · intro y s hy
      cases hy
open PySem PySem.W PySem.Calls PyProof.Rows
noncomputable def esc : List (Str × Str) → Str → Str
  | [], t => t
  | (c, r) :: l, t => esc l (Txt.replace t c r)
noncomputable def e0 : List (Str × Str) := [("&", "&amp;"), ("<", "&lt;"), (">", "&gt;")]
noncomputable def e1 : List (Str × Str) := [("&", "&amp;"), ("<", "&lt;"), (">", "&gt;"), ("\r", "&#xD;")]
noncomputable def e2 : List (Str × Str) := [("&", "&amp;"), ("<", "&lt;"), (">", "&gt;"), ("\"", "&quot;"), ("\r", "&#13;"), ("\n", "&#10;"), ("\t", "&#09;")]
noncomputable def e3 : List (Str × Str) := [("&", "&amp;"), ("<", "&lt;"), ("\"", "&quot;"), ("\t", "&#x9;"), ("\n", "&#xA;"), ("\r", "&#xD;")]
noncomputable def e4 : List (Str × Str) := [("&", "&amp;"), (">", "&gt;"), ("\"", "&quot;")]
noncomputable def escOk : List (Str × Str) → Str → Bool
  | [], t => true
  | (c, r) :: l, t => decide (t.length ≤ 1048576) && escOk l (Txt.replace t c r)
theorem escOk_cons {c r : Str} {l : List (Str × Str)} {t : Str} (h : escOk ((c, r) :: l) t = true) : t.length ≤ 1048576 ∧ escOk l (Txt.replace t c r) = true := by
  simpa [escOk] using h
noncomputable def fns : List (Str × (Arguments × List Stmt × Scope)) := [("_escape_cdata", (d_escape_cdata_args, d_escape_cdata_body, d_escape_cdata_scope)), ("_escape_cdata_c14n", (d_escape_cdata_c14n_args, d_escape_cdata_c14n_body, d_escape_cdata_c14n_scope)),
  ("_escape_attrib", (d_escape_attrib_args, d_escape_attrib_body, d_escape_attrib_scope)), ("_escape_attrib_c14n", (d_escape_attrib_c14n_args, d_escape_attrib_c14n_body, d_escape_attrib_c14n_scope)), ("_escape_attrib_html", (d_escape_attrib_html_args, d_escape_attrib_html_body, d_escape_attrib_html_scope))]
structure Tab2 (B : Base) : Prop extends Tab B where
  fn : ∀ f p b s, fns.lookup f = some (p, b, s) → FnAt B f p b s
variable {B : Base} {k : Nat}
theorem c_e0 (T : Tab2 B) {t : Str} (h : escOk e0 t = true) : Calls B (k + 1) "_escape_cdata" [.str t] (.str (esc e0 t)) := by
  refine Calls.of (o := .ret (.str (esc e0 t))) (xs := ["text"]) (Γ' := [("text", .sh (.str (esc e0 t)))]) T.toTab.O (T.fn "_escape_cdata" _ _ _ (by rfl)) (.plain (fun _ _ _ => len1 fun _ => rfl)) (by simp) ?_
  refine Ex.stop (Ex1.try_ ?_) (by simp)
  repeat' (refine Ex.cons (Ex1.escape T.toTab.O (by rfl) (.inl (by rfl)) (ht := (escOk_cons h).1)) ?_; replace h := (escOk_cons h).2)
  exact Ex.stop (Ex1.ret (Ev.name (by rfl))) (by simp)
theorem c_e1 (T : Tab2 B) {t : Str} (h : escOk e1 t = true) : Calls B (k + 1) "_escape_cdata_c14n" [.str t] (.str (esc e1 t)) := by
  refine Calls.of (o := .ret (.str (esc e1 t))) (xs := ["text"]) (Γ' := [("text", .sh (.str (esc e1 t)))]) T.toTab.O (T.fn "_escape_cdata_c14n" _ _ _ (by rfl)) (.plain (fun _ _ _ => len1 fun _ => rfl)) (by simp) ?_
  refine Ex.stop (Ex1.try_ ?_) (by simp)
  repeat' (refine Ex.cons (Ex1.escape T.toTab.O (by rfl) (.inl (by rfl)) (ht := (escOk_cons h).1)) ?_; replace h := (escOk_cons h).2)
  exact Ex.stop (Ex1.ret (Ev.name (by rfl))) (by simp)
theorem c_e2 (T : Tab2 B) {t : Str} (h : escOk e2 t = true) : Calls B (k + 1) "_escape_attrib" [.str t] (.str (esc e2 t)) := by
  refine Calls.of (o := .ret (.str (esc e2 t))) (xs := ["text"]) (Γ' := [("text", .sh (.str (esc e2 t)))]) T.toTab.O (T.fn "_escape_attrib" _ _ _ (by rfl)) (.plain (fun _ _ _ => len1 fun _ => rfl)) (by simp) ?_
  refine Ex.stop (Ex1.try_ ?_) (by simp)
  repeat' (refine Ex.cons (Ex1.escape T.toTab.O (by rfl) (.inl (by rfl)) (ht := (escOk_cons h).1)) ?_; replace h := (escOk_cons h).2)
  exact Ex.stop (Ex1.ret (Ev.name (by rfl))) (by simp)
theorem c_e3 (T : Tab2 B) {t : Str} (h : escOk e3 t = true) : Calls B (k + 1) "_escape_attrib_c14n" [.str t] (.str (esc e3 t)) := by
  refine Calls.of (o := .ret (.str (esc e3 t))) (xs := ["text"]) (Γ' := [("text", .sh (.str (esc e3 t)))]) T.toTab.O (T.fn "_escape_attrib_c14n" _ _ _ (by rfl)) (.plain (fun _ _ _ => len1 fun _ => rfl)) (by simp) ?_
  refine Ex.stop (Ex1.try_ ?_) (by simp)
  repeat' (refine Ex.cons (Ex1.escape T.toTab.O (by rfl) (.inl (by rfl)) (ht := (escOk_cons h).1)) ?_; replace h := (escOk_cons h).2)
  exact Ex.stop (Ex1.ret (Ev.name (by rfl))) (by simp)
theorem c_e4 (T : Tab2 B) {t : Str} (h : escOk e4 t = true) : Calls B (k + 1) "_escape_attrib_html" [.str t] (.str (esc e4 t)) := by
  refine Calls.of (o := .ret (.str (esc e4 t))) (xs := ["text"]) (Γ' := [("text", .sh (.str (esc e4 t)))]) T.toTab.O (T.fn "_escape_attrib_html" _ _ _ (by rfl)) (.plain (fun _ _ _ => len1 fun _ => rfl)) (by simp) ?_
  refine Ex.stop (Ex1.try_ ?_) (by simp)
  repeat' (refine Ex.cons (Ex1.escape T.toTab.O (by rfl) (.inl (by rfl)) (ht := (escOk_cons h).1)) ?_; replace h := (escOk_cons h).2)
  exact Ex.stop (Ex1.ret (Ev.name (by rfl))) (by simp)
noncomputable def forms (k : Nat) : List (Str × Str) := match k with | 0 => e0 | 1 => e1 | 2 => e2 | 3 => e3 | _ => e4
structure Tab3 (B : Base) : Prop extends Tab2 B where
  written : FnAt B "_law_written" d_law_written_args d_law_written_body d_law_written_scope
theorem c_written (T' : Tab3 B) {t : Str} {n : Nat} (hn : n < 5) (h : escOk (forms n) t = true) : Calls B (k + 2) "_law_written" [.str t, .int n] (.str (esc (forms n) t)) := by
  have T := T'.toTab2
  refine Calls.of (o := .ret (.str (esc (forms n) t))) (xs := ["text", "kind"]) (Γ' := [("text", .sh (.str t)), ("kind", .sh (.int n))]) T.toTab.O T'.written (.plain (fun _ _ _ => len2 fun _ _ => rfl)) (by simp) ?_
  by_cases h0 : n = 0
  · subst h0
    have h : escOk e0 t = true := h
    (focus (apply Ex.stop; (case' x => apply Ex1.ife; (case x => (apply EvT.cmp; (apply EvB.sh; exact rfl; exact rfl; exact rfl); (apply Ev.b; apply Ev.cint); apply CmpR.eq_int; exact rfl)); (case' z => intro hb); (case' y => intro hb)); (case ho => (intro h; cases h; done))))
    · (focus (apply Ex.stop; (case' x => (apply Ex1.ret; (focus (apply Ev.call; (case hK => exact rfl); (case y => (apply EvL.cons; (apply Ev.name; exact rfl; exact rfl; exact rfl); apply EvL.nil; exact rfl)); (case O => exact T.O); (case F => exact ⟨_, _, _, T.fn _ _ _ _ (by rfl)⟩); (case c => exact c_e0 T (by with_reducible assumption)); exact rfl; exact rfl)))); (case ho => (intro h; cases h; done))))
    · cases hb
  (focus (apply Ex.cons; (case' x => apply Ex1.ife; (case x => (apply EvT.cmp; (apply EvB.sh; exact rfl; exact rfl; exact rfl); (apply Ev.b; apply Ev.cint); apply CmpR.eq_int; exact rfl)); (case' z => intro hb); (case' y => intro hb))))
  · exact absurd hb (by simp; omega)
  · exact Ex.nil
  by_cases h1 : n = 1
  · subst h1
    have h : escOk e1 t = true := h
    (focus (apply Ex.stop; (case' x => apply Ex1.ife; (case x => (apply EvT.cmp; (apply EvB.sh; exact rfl; exact rfl; exact rfl); (apply Ev.b; apply Ev.cint); apply CmpR.eq_int; exact rfl)); (case' z => intro hb); (case' y => intro hb)); (case ho => (intro h; cases h; done))))
    · (focus (apply Ex.stop; (case' x => (apply Ex1.ret; (focus (apply Ev.call; (case hK => exact rfl); (case y => (apply EvL.cons; (apply Ev.name; exact rfl; exact rfl; exact rfl); apply EvL.nil; exact rfl)); (case O => exact T.O); (case F => exact ⟨_, _, _, T.fn _ _ _ _ (by rfl)⟩); (case c => exact c_e1 T (by with_reducible assumption)); exact rfl; exact rfl)))); (case ho => (intro h; cases h; done))))
    · cases hb
  (focus (apply Ex.cons; (case' x => apply Ex1.ife; (case x => (apply EvT.cmp; (apply EvB.sh; exact rfl; exact rfl; exact rfl); (apply Ev.b; apply Ev.cint); apply CmpR.eq_int; exact rfl)); (case' z => intro hb); (case' y => intro hb))))
  · exact absurd hb (by simp; omega)
  · exact Ex.nil
  by_cases h2 : n = 2
  · subst h2
    have h : escOk e2 t = true := h
    (focus (apply Ex.stop; (case' x => apply Ex1.ife; (case x => (apply EvT.cmp; (apply EvB.sh; exact rfl; exact rfl; exact rfl); (apply Ev.b; apply Ev.cint); apply CmpR.eq_int; exact rfl)); (case' z => intro hb); (case' y => intro hb)); (case ho => (intro h; cases h; done))))
    · (focus (apply Ex.stop; (case' x => (apply Ex1.ret; (focus (apply Ev.call; (case hK => exact rfl); (case y => (apply EvL.cons; (apply Ev.name; exact rfl; exact rfl; exact rfl); apply EvL.nil; exact rfl)); (case O => exact T.O); (case F => exact ⟨_, _, _, T.fn _ _ _ _ (by rfl)⟩); (case c => exact c_e2 T (by with_reducible assumption)); exact rfl; exact rfl)))); (case ho => (intro h; cases h; done))))
    · cases hb
  (focus (apply Ex.cons; (case' x => apply Ex1.ife; (case x => (apply EvT.cmp; (apply EvB.sh; exact rfl; exact rfl; exact rfl); (apply Ev.b; apply Ev.cint); apply CmpR.eq_int; exact rfl)); (case' z => intro hb); (case' y => intro hb))))
  · exact absurd hb (by simp; omega)
  · exact Ex.nil
  by_cases h3 : n = 3
  · subst h3
    have h : escOk e3 t = true := h
    (focus (apply Ex.stop; (case' x => apply Ex1.ife; (case x => (apply EvT.cmp; (apply EvB.sh; exact rfl; exact rfl; exact rfl); (apply Ev.b; apply Ev.cint); apply CmpR.eq_int; exact rfl)); (case' z => intro hb); (case' y => intro hb)); (case ho => (intro h; cases h; done))))
    · (focus (apply Ex.stop; (case' x => (apply Ex1.ret; (focus (apply Ev.call; (case hK => exact rfl); (case y => (apply EvL.cons; (apply Ev.name; exact rfl; exact rfl; exact rfl); apply EvL.nil; exact rfl)); (case O => exact T.O); (case F => exact ⟨_, _, _, T.fn _ _ _ _ (by rfl)⟩); (case c => exact c_e3 T (by with_reducible assumption)); exact rfl; exact rfl)))); (case ho => (intro h; cases h; done))))
    · cases hb
  (focus (apply Ex.cons; (case' x => apply Ex1.ife; (case x => (apply EvT.cmp; (apply EvB.sh; exact rfl; exact rfl; exact rfl); (apply Ev.b; apply Ev.cint); apply CmpR.eq_int; exact rfl)); (case' z => intro hb); (case' y => intro hb))))
  · exact absurd hb (by simp; omega)
  · exact Ex.nil
  obtain rfl : n = 4 := by omega
  have h : escOk e4 t = true := h
  (focus (apply Ex.stop; (case' x => (apply Ex1.ret; (focus (apply Ev.call; (case hK => exact rfl); (case y => (apply EvL.cons; (apply Ev.name; exact rfl; exact rfl; exact rfl); apply EvL.nil; exact rfl)); (case O => exact T.O); (case F => exact ⟨_, _, _, T.fn _ _ _ _ (by rfl)⟩); (case c => exact c_e4 T (by with_reducible assumption)); exact rfl; exact rfl)))); (case ho => (intro h; cases h; done))))
open PySem PySem.W PySem.Calls PyProof.Rows
noncomputable def tS (n : Nat) : List (Str × Str) := match n with
  | 0 => [("&", "&amp;"), ("<", "&lt;"), (">", "&gt;")]
  | 1 => [("&", "&amp;"), ("<", "&lt;"), (">", "&gt;"), ("\r", "&#xD;")]
  | 2 => [("&", "&amp;"), ("<", "&lt;"), (">", "&gt;"), ("\"", "&quot;"), ("\r", "&#13;"), ("\n", "&#10;"), ("\t", "&#09;")]
  | 3 => [("&", "&amp;"), ("<", "&lt;"), ("\"", "&quot;"), ("\r", "&#xD;"), ("\n", "&#xA;"), ("\t", "&#x9;")]
  | _ => [("&", "&amp;"), (">", "&gt;"), ("\"", "&quot;")]
noncomputable def sget (l : List (Str × Str)) (x : Str) : Option Str := (l.find? fun p => p.1 = x).map (·.2)
theorem dget_vals (l : List (Str × Str)) (x : Str) : dget (vals l) x = (sget l x).map .str := by
  unfold dget sget vals
  rw [List.find?_map]
  simp only [Function.comp_def, Option.map_map]
noncomputable def toldRow (n : Nat) (t : Str) : List Str := (signs t).map fun c => (sget (tS n) c).getD c
noncomputable def toldS (n : Nat) (t : Str) : Str := Txt.join "" (toldRow n t)
structure Tab4 (B : Base) : Prop extends Tab3 B where
  told : FnAt B "_law_told" d_law_told_args d_law_told_body d_law_told_scope
variable {B : Base} {k : Nat}
theorem c_told (T' : Tab4 B) {t : Str} {n : Nat} (hn : n < 5) (ha : t.cps.all (· < 128) = true) (hj : JoinOk "" (toldRow n t) = true) (hl : (toldRow n t).length ≤ sizeLine) : Calls B (k + 2) "_law_told" [.str t, .int n] (.str (toldS n t)) := by
  have T := T'.toTab2
  refine Calls.of (o := .ret (.str (toldS n t))) (xs := ["text", "kind"]) (Γ' := []) T.toTab.O T'.told (.plain (fun _ _ _ => len2 fun _ _ => rfl)) (by simp) ?_
  (focus (apply Ex.cons; (case' x => (apply Ex1.assign; (apply EvF.ev; (apply EvF.list; exact T.O; (apply EvL.cons; (apply EvF.ev; (apply EvF.dict; exact T.O; (apply EvD.cons; apply Ev.cstr; apply Ev.cstr; (apply EvD.cons; apply Ev.cstr; apply Ev.cstr; (apply EvD.cons; apply Ev.cstr; apply Ev.cstr; apply EvD.nil))); decide; exact Nat.le_of_ble_eq_true rfl; decide)); (apply EvL.cons; (apply EvF.ev; (apply EvF.dict; exact T.O; (apply EvD.cons; apply Ev.cstr; apply Ev.cstr; (apply EvD.cons; apply Ev.cstr; apply Ev.cstr; (apply EvD.cons; apply Ev.cstr; apply Ev.cstr; (apply EvD.cons; apply Ev.cstr; apply Ev.cstr; apply EvD.nil)))); decide; exact Nat.le_of_ble_eq_true rfl; decide)); (apply EvL.cons; (apply EvF.ev; (apply EvF.dict; exact T.O; (apply EvD.cons; apply Ev.cstr; apply Ev.cstr; (apply EvD.cons; apply Ev.cstr; apply Ev.cstr; (apply EvD.cons; apply Ev.cstr; apply Ev.cstr; (apply EvD.cons; apply Ev.cstr; apply Ev.cstr; (apply EvD.cons; apply Ev.cstr; apply Ev.cstr; (apply EvD.cons; apply Ev.cstr; apply Ev.cstr; (apply EvD.cons; apply Ev.cstr; apply Ev.cstr; apply EvD.nil))))))); decide; exact Nat.le_of_ble_eq_true rfl; decide)); (apply EvL.cons; (apply EvF.ev; (apply EvF.dict; exact T.O; (apply EvD.cons; apply Ev.cstr; apply Ev.cstr; (apply EvD.cons; apply Ev.cstr; apply Ev.cstr; (apply EvD.cons; apply Ev.cstr; apply Ev.cstr; (apply EvD.cons; apply Ev.cstr; apply Ev.cstr; (apply EvD.cons; apply Ev.cstr; apply Ev.cstr; (apply EvD.cons; apply Ev.cstr; apply Ev.cstr; apply EvD.nil)))))); decide; exact Nat.le_of_ble_eq_true rfl; decide)); (apply EvL.cons; (apply EvF.ev; (apply EvF.dict; exact T.O; (apply EvD.cons; apply Ev.cstr; apply Ev.cstr; (apply EvD.cons; apply Ev.cstr; apply Ev.cstr; (apply EvD.cons; apply Ev.cstr; apply Ev.cstr; apply EvD.nil))); decide; exact Nat.le_of_ble_eq_true rfl; decide)); apply EvL.nil; exact rfl); exact rfl); exact rfl); exact rfl); exact rfl); exact Nat.le_of_ble_eq_true rfl)); (apply Asg.name; exact T.O; decide); exact rfl; ((try delta autoParam); intros; rfl); ((try delta autoParam); intros; rfl)))))
  refine Ex.weak (Γ' := [("text", .sh (.str t)), ("kind", .sh (.int n)), ("forms", .sh (.list [.dict (vals (tS 0)), .dict (vals (tS 1)), .dict (vals (tS 2)), .dict (vals (tS 3)), .dict (vals (tS 4))]))]) ?_ (fun y s hy => by cases hy)
  refine Ex.stop (Ex1.ret (Ev.meth (Ev.cstr.b) (EvLB.cons (EvF.ev (EvF.comp (cx := false) (out := sl (toldRow n t)) T.toTab.O (EvI.b (EvI.str T.toTab.O (Ev.name (by rfl)) ha)) (by exact ScOk.of (by rfl) (by rfl) (by rfl) (by intros; rfl) (by intros; rfl)) (by rfl) ?_ ?_ (by intros; rfl))).b .nil) Meth.join OfType.str (BltR.join hj))) (by simp)
  · have e : sl (toldRow n t) = (signs t).map fun c => D.str ((sget (tS n) c).getD c) := by simp [sl, toldRow]
    rw [e]
    refine CompR.map D.str _ (signs t) fun c m => ?_
    have hd : ([D.dict (vals (tS 0)), .dict (vals (tS 1)), .dict (vals (tS 2)), .dict (vals (tS 3)), .dict (vals (tS 4))] : List D)[((n : Nat) : Int).toNat]? = some (.dict (vals (tS n))) := by
      match n, hn with
      | 0, _ => rfl
      | 1, _ => rfl
      | 2, _ => rfl
      | 3, _ => rfl
      | 4, _ => rfl
    have e2 : D.str ((sget (tS n) c).getD c) = (dget (vals (tS n)) c).getD (.str c) := by
      rw [dget_vals]
      cases sget (tS n) c <;> rfl
    rw [e2]
    refine Ev.meth (d₀ := .dict (vals (tS n))) (Ev.b (Ev.sub (EvB.sh (by rfl)) (EvB.sh (by rfl)) (SubR.list (by omega) (by omega) hd))) (by (apply EvLB.cons; (apply EvB.sh; exact rfl; exact rfl; exact rfl); (apply EvLB.cons; (apply EvB.sh; exact rfl; exact rfl; exact rfl); apply EvLB.nil; exact rfl); exact rfl)) Meth.dget OfType.dict' (BltR.dget T.toTab.O)
  · simpa [sl] using hl
theorem sl_app (a b : List Str) : sl (a ++ b) = sl a ++ sl b := by simp [sl]
theorem sl_len (a : List Str) : (sl a).length = a.length := by simp [sl]
open PySem PySem.W PySem.Calls PyProof.Rows
structure Tab5 (B : Base) : Prop extends Tab4 B where
  sld : FnAt B "sorted_list_difference" sorted_list_difference_args sorted_list_difference_body sorted_list_difference_scope
variable {B : Base} {k : Nat}
noncomputable def sldF : Nat → List Str → List Str → List Str × List Str
  | 0, _, _ => ([], [])
  | _ + 1, [], Y => ([], Y)
  | _ + 1, x :: X, [] => (x :: X, [])
  | n + 1, x :: X, y :: Y =>
    if ltS x y = true then ((x :: (sldF n X (y :: Y)).1), (sldF n X (y :: Y)).2)
    else if ltS y x = true then ((sldF n (x :: X) Y).1, y :: (sldF n (x :: X) Y).2)
    else sldF n X Y
noncomputable def sldS (X Y : List Str) : List Str × List Str := sldF (X.length + Y.length + 1) X Y
noncomputable def Rising (l : List Str) : Prop := l.Pairwise fun a b => ltS a b = true
theorem Rising.ne {x y : Str} {l : List Str} (h : Rising (x :: y :: l)) : (y == x) = false := by
  unfold Rising at h
  rw [List.pairwise_cons] at h
  have h1 := h.1 y (.head _)
  rw [beq_eq_false_iff_ne]
  rintro rfl
  rw [ltS_irrefl] at h1; cases h1
theorem eq_of_nlt {x y : Str} (h1 : ¬ ltS x y = true) (h2 : ¬ ltS y x = true) : x = y := by
  by_cases e : x = y
  · exact e
  · rcases ltS_tri e with q | q
    · exact absurd q h1
    · exact absurd q h2
noncomputable def sldG (X Y : List Str) (i j : Int) (M U : List Str) : G := [("expected", .sh (.list (sl X))), ("actual", .sh (.list (sl Y))), ("i", .sh (.int i)), ("j", .sh (.int j)), ("missing", .own none (.list (sl M))), ("unexpected", .own none (.list (sl U)))]
noncomputable def sldZ (M U : List Str) : G := [("missing", .own none (.list (sl M))), ("unexpected", .own none (.list (sl U)))]
theorem cut_from (l : List Str) (i : Nat) : cut (sl l) (some (i : Int)) none = sl (l.drop i) := by
  rw [cut_drop, sl, sl, List.map_drop]
theorem drop_app {α : Type} (a b : List α) : (a ++ b).drop a.length = b := by simp
theorem cut_len (l : List D) (a b : Option Int) : (cut l a b).length ≤ l.length := by
  unfold cut
  rw [List.length_drop]
  exact Nat.le_trans (Nat.sub_le _ _) (List.length_take_le' _ _)
theorem cutsz {A : List D} {X : List Str} {a b : Option Int} (hA : A.length ≤ 101) (hX : X.length ≤ 100) : A.length + (cut (sl X) a b).length ≤ sizeLine :=
  Nat.le_trans (Nat.add_le_add hA (Nat.le_trans (cut_len _ _ _) (sl_len X ▸ hX))) (by decide)
theorem sl101 {M : List Str} (h : M.length ≤ 100) : (sl M).length ≤ 101 := by rw [sl_len]; exact Nat.le_succ_of_le h
theorem slx101 {M : List Str} {x : D} (h : M.length ≤ 100) : (sl M ++ [x]).length ≤ 101 := by rw [List.length_append, sl_len]; exact Nat.succ_le_succ h
theorem slSz {M : List Str} (h : M.length ≤ 100) : (sl M).length ≤ sizeLine := Nat.le_trans (sl101 h) (by decide)
theorem nat63 {n m : Nat} (h : n + m ≤ 100) : (n : Int) < 2 ^ 63 := by omega
theorem nat63' {n m : Nat} (h : n + m ≤ 100) : (n : Int) + 1 < 2 ^ 63 := by omega
theorem nn1 (n : Nat) : (0 : Int) ≤ (n : Int) + 1 := by omega
theorem fpos {a b f : Nat} (h : a + 1 + (b + 1) < f + 1) : ∃ g, f = g + 1 := ⟨f - 1, by omega⟩
theorem dec1 {a b f : Nat} (h : a + 1 + b < f + 1) : a + b < f := by omega
theorem dec3 {a b f : Nat} (h : a + 1 + (b + 1) < f + 1 + 1) : a + b < f := by omega
theorem app100 {M : List Str} {x : Str} {p r : Nat} (l : M.length ≤ p) (h : p + (r + 1) ≤ 100) : (M ++ [x]).length ≤ 100 := by rw [List.length_append]; show _ + 1 ≤ 100; omega
theorem appLe {M N : List Str} {x y : Str} (h : M.length ≤ N.length) : (M ++ [x]).length ≤ (N ++ [y]).length := by rw [List.length_append, List.length_append]; exact Nat.succ_le_succ h
theorem appLe' {M N : List Str} {y : Str} (h : M.length ≤ N.length) : M.length ≤ (N ++ [y]).length := by rw [List.length_append]; exact Nat.le_succ_of_le h
set_option maxHeartbeats 1000000 in
theorem c_sld (T' : Tab5 B) {X Y : List Str} (hX : Rising X) (hY : Rising Y) (lX : X.length ≤ 100) (lY : Y.length ≤ 100) :
    Calls B (k + 2) "sorted_list_difference" [.list (sl X), .list (sl Y)] (.tup [.list (sl (sldS X Y).1), .list (sl (sldS X Y).2)]) := by
  have T := T'.toTab2
  have big : (100000 : Nat) ≤ sizeLine := by decide
  refine Calls.ofT (o := .ret (.tup [.list (sl (sldS X Y).1), .list (sl (sldS X Y).2)])) (xs := ["expected", "actual"]) (Γ' := []) T.toTab.O T'.sld (.plain (fun _ _ _ => len2 fun _ _ => rfl)) (by simp) ?_
  apply ExT.cons; apply Ex1.t; (apply Ex1.assign2; apply Ev.cint; (apply Asg.name; exact T.O; decide); (apply Asg.name; exact T.O; decide); exact rfl; exact rfl; ((try delta autoParam); intros; rfl); ((try delta autoParam); intros; rfl))
  apply ExT.cons; apply Ex1.t; apply Ex1.assignF; (exact T.O); (apply EvF.list; exact T.O; apply EvL.nil; exact Nat.le_of_ble_eq_true rfl); (decide); ((try delta autoParam); intros; rfl)
  apply ExT.cons; apply Ex1.t; apply Ex1.assignF; (exact T.O); (apply EvF.list; exact T.O; apply EvL.nil; exact Nat.le_of_ble_eq_true rfl); (decide); ((try delta autoParam); intros; rfl)
  refine ExT.cons (Γ₁ := sldZ (sldS X Y).1 (sldS X Y).2) ?_ ?_
  rotate_left
  · refine ExT.share (x := "missing") (ExT.share (x := "unexpected") ?_ (by rfl)) (by rfl)
    refine ExT.weak (Ex.t (Ex.stop (Ex1.ret (Ev.tup (ds := [.list (sl (sldS X Y).1), .list (sl (sldS X Y).2)]) T.toTab.O (by (apply EvL.cons; (apply Ev.name; exact rfl; exact rfl; exact rfl); (apply EvL.cons; (apply Ev.name; exact rfl; exact rfl; exact rfl); apply EvL.nil; exact rfl); exact rfl)) (by show 2 ≤ sizeLine; decide))) (by simp))) (fun y s hy => by cases hy)
  refine ExT1.whileEx ?_ (fun X => EvT.val (Ev.cbool.b) TruR.bool)
  refine (?_ : ∀ (f : Nat) (Xr Yr Xp Yp M U : List Str) (hf : Xr.length + Yr.length < f) (eX : X = Xp ++ Xr) (eY : Y = Yp ++ Yr) (hM : M.length ≤ 100) (hU : U.length ≤ 100) (lM : M.length ≤ Xp.length) (lU : U.length ≤ Yp.length), ∃ n, WLoop B (k + 1) _ _ n (sldG X Y Xp.length Yp.length M U) (sldZ (M ++ (sldF f Xr Yr).1) (U ++ (sldF f Xr Yr).2))) (X.length + Y.length + 1) X Y [] [] [] [] (Nat.lt_succ_self _) rfl rfl (by decide) (by decide) (by decide) (by decide)
  have szX : (sl X).length ≤ sizeLine := slSz lX
  have szY : (sl Y).length ≤ sizeLine := slSz lY
  intro f
  induction f with
  | zero => intro Xr Yr Xp Yp M U hf; exact absurd hf (Nat.not_lt_zero _)
  | succ f IH =>
    intro Xr Yr Xp Yp M U hf eX eY hM hU lM lU
    have lx : Xp.length + Xr.length ≤ 100 := by rw [eX] at lX; simpa using lX
    have ly : Yp.length + Yr.length ≤ 100 := by rw [eY] at lY; simpa using lY
    have dX : X.drop Xp.length = Xr := by rw [eX]; exact drop_app _ _
    have dY : Y.drop Yp.length = Yr := by rw [eY]; exact drop_app _ _
    have i0 : (0 : Int) ≤ ((Xp.length : Nat) : Int) := Int.natCast_nonneg _
    have j0 : (0 : Int) ≤ ((Yp.length : Nat) : Int) := Int.natCast_nonneg _
    have i1 : ((Xp.length : Nat) : Int) < 2 ^ 63 := nat63 lx
    have j1 : ((Yp.length : Nat) : Int) < 2 ^ 63 := nat63 ly
    have hmz : (sl M).length + (cut (sl X) (some (Xp.length : Int)) none).length ≤ sizeLine := cutsz (sl101 hM) lX
    have huz : (sl U).length + (cut (sl Y) (some (Yp.length : Int)) none).length ≤ sizeLine := cutsz (sl101 hU) lY
    have hand : ∀ (R1 R2 : List Str) (i j : Nat), X.drop i = R1 → Y.drop j = R2 → sl (M ++ R1) = sl M ++ cut (sl X) (some (i : Int)) none ∧ sl (U ++ R2) = sl U ++ cut (sl Y) (some (j : Int)) none := fun R1 R2 i j e1 e2 => by
      rw [sl_app, sl_app, cut_from, cut_from, e1, e2]; exact ⟨rfl, rfl⟩
    cases Xr with
    | nil =>
      have hi : ((sl X).length : Int) ≤ ((Xp.length : Nat) : Int) := by rw [sl_len, eX]; simp
      refine ⟨0, .brk (ExT.stop (ExT1.caught T.toTab.O (c := false) (Γ₁ := sldG X Y Xp.length Yp.length M U) (ExX.head (ExX1.assign (EvX.sub T.toTab.O (EvB.sh (by rfl)) (EvB.sh (by rfl)) hi i1))) ?_ (T.toTab.blt _ _ (by rfl)) (by rfl)) (by simp))⟩
      refine byA (hand [] Yr _ _ dX dY) fun e1 e2 => ?_
      show Ex _ _ _ _ _ _ (sldZ (M ++ []) (U ++ Yr))
      unfold sldZ
      rw [e1, e2]
      apply Ex.weak
      · (focus (apply Ex.cons; (case' x => (apply Ex1.exprM; (apply EvN.m; (apply EvN.meth; exact rfl; (apply EvL.n; (apply EvL.cons; (apply EvF.ev; (apply EvF.slice; exact T.O; (apply EvB.sh; exact rfl; exact rfl; exact rfl); (apply EvP.some; (apply Ev.name; exact rfl; exact rfl; exact rfl)); apply EvP.none; (with_reducible assumption))); apply EvL.nil; exact rfl)); exact rfl; apply Meth.extend; apply OfType.list; (apply MutR.extend; exact T.O; (with_reducible assumption)); exact rfl; exact rfl; exact Nat.le_of_ble_eq_true rfl; exact rfl; exact rfl; ((try delta autoParam); intros; rfl))); ((try delta autoParam); intros; rfl))))); (focus (apply Ex.cons; (case' x => (apply Ex1.exprM; (apply EvN.m; (apply EvN.meth; exact rfl; (apply EvL.n; (apply EvL.cons; (apply EvF.ev; (apply EvF.slice; exact T.O; (apply EvB.sh; exact rfl; exact rfl; exact rfl); (apply EvP.some; (apply Ev.name; exact rfl; exact rfl; exact rfl)); apply EvP.none; (with_reducible assumption))); apply EvL.nil; exact rfl)); exact rfl; apply Meth.extend; apply OfType.list; (apply MutR.extend; exact T.O; (with_reducible assumption)); exact rfl; exact rfl; exact Nat.le_of_ble_eq_true rfl; exact rfl; exact rfl; ((try delta autoParam); intros; rfl))); ((try delta autoParam); intros; rfl)))))
        refine Ex.stop Ex1.brk (by simp)
      · exact lkCons (by rfl) (lkCons (by rfl) lkNil)
    | cons x Xr =>
      have hdx : (sl X)[((Xp.length : Nat) : Int).toNat]? = some (.str x) := by simp [sl, eX]
      have lxc : Xr.length + 1 + Xp.length ≤ 100 := by rw [Nat.add_comm]; exact lx
      have ei : (((Xp ++ [x]).length : Nat) : Int) = ((Xp.length : Nat) : Int) + 1 := by simp
      have i2 : (0 : Int) ≤ ((Xp.length : Nat) : Int) + 1 := nn1 _
      have i3 : ((Xp.length : Nat) : Int) + 1 < 2 ^ 63 := nat63' lx
      cases Yr with
      | nil =>
        have hj : ((sl Y).length : Int) ≤ ((Yp.length : Nat) : Int) := by rw [sl_len, eY]; simp
        refine ⟨0, .brk (ExT.stop (ExT1.caught T.toTab.O (c := false) (Γ₁ := sldG X Y Xp.length Yp.length M U ++ ([("e", .sh (.str x))] : G)) ?_ ?_ (T.toTab.blt _ _ (by rfl)) (by rfl)) (by simp))⟩
        · apply ExX.tail
          · (apply Ex1.assign; (apply Ev.sub; (apply EvB.sh; exact rfl; exact rfl; exact rfl); (apply EvB.sh; exact rfl; exact rfl; exact rfl); (apply SubR.list; (with_reducible assumption); (with_reducible assumption); (with_reducible assumption)); exact rfl); (apply Asg.name; exact T.O; decide); exact rfl; ((try delta autoParam); intros; rfl); ((try delta autoParam); intros; rfl))
          · exact ExX.head (ExX1.assign (EvX.sub T.toTab.O (EvB.sh (by rfl)) (EvB.sh (by rfl)) hj j1))
        · refine byA (hand (x :: Xr) [] _ _ dX dY) fun e1 e2 => ?_
          show Ex _ _ _ _ _ _ (sldZ (M ++ x :: Xr) (U ++ []))
          unfold sldZ
          rw [e1, e2]
          apply Ex.weak
          · (focus (apply Ex.cons; (case' x => (apply Ex1.exprM; (apply EvN.m; (apply EvN.meth; exact rfl; (apply EvL.n; (apply EvL.cons; (apply EvF.ev; (apply EvF.slice; exact T.O; (apply EvB.sh; exact rfl; exact rfl; exact rfl); (apply EvP.some; (apply Ev.name; exact rfl; exact rfl; exact rfl)); apply EvP.none; (with_reducible assumption))); apply EvL.nil; exact rfl)); exact rfl; apply Meth.extend; apply OfType.list; (apply MutR.extend; exact T.O; (with_reducible assumption)); exact rfl; exact rfl; exact Nat.le_of_ble_eq_true rfl; exact rfl; exact rfl; ((try delta autoParam); intros; rfl))); ((try delta autoParam); intros; rfl))))); (focus (apply Ex.cons; (case' x => (apply Ex1.exprM; (apply EvN.m; (apply EvN.meth; exact rfl; (apply EvL.n; (apply EvL.cons; (apply EvF.ev; (apply EvF.slice; exact T.O; (apply EvB.sh; exact rfl; exact rfl; exact rfl); (apply EvP.some; (apply Ev.name; exact rfl; exact rfl; exact rfl)); apply EvP.none; (with_reducible assumption))); apply EvL.nil; exact rfl)); exact rfl; apply Meth.extend; apply OfType.list; (apply MutR.extend; exact T.O; (with_reducible assumption)); exact rfl; exact rfl; exact Nat.le_of_ble_eq_true rfl; exact rfl; exact rfl; ((try delta autoParam); intros; rfl))); ((try delta autoParam); intros; rfl)))))
            refine Ex.stop Ex1.brk (by simp)
          · exact lkCons (by rfl) (lkCons (by rfl) lkNil)
      | cons y Yr =>
        have hdy : (sl Y)[((Yp.length : Nat) : Int).toNat]? = some (.str y) := by simp [sl, eY]
        have lyc : Yr.length + 1 + Yp.length ≤ 100 := by rw [Nat.add_comm]; exact ly
        have ej : (((Yp ++ [y]).length : Nat) : Int) = ((Yp.length : Nat) : Int) + 1 := by simp
        have j2 : (0 : Int) ≤ ((Yp.length : Nat) : Int) + 1 := nn1 _
        have j3 : ((Yp.length : Nat) : Int) + 1 < 2 ^ 63 := nat63' ly
        (refine byE (fpos hf) fun f hq1 => ?_; subst hq1)
        have szM : (sl M).length ≤ sizeLine := slSz hM
        have szU : (sl U).length ≤ sizeLine := slSz hU
        have hmzx : (sl M ++ [D.str x]).length + (cut (sl X) (some (((Xp.length : Nat) : Int) + 1)) none).length ≤ sizeLine := cutsz (slx101 hM) lX
        by_cases h1 : ltS x y = true
        · have er : sldF (f + 1 + 1) (x :: Xr) (y :: Yr) = (x :: (sldF (f + 1) Xr (y :: Yr)).1, (sldF (f + 1) Xr (y :: Yr)).2) := by
            rw [sldF, if_pos h1]
          rw [er]
          have h1' : decide (x.cps.toList < y.cps.toList) = true := h1
          cases Xr with
          | nil =>
            have hi : ((sl X).length : Int) ≤ ((Xp.length : Nat) : Int) + 1 := by rw [sl_len, eX]; simp
            refine ⟨0, .brk (ExT.stop (ExT1.caught T.toTab.O (c := false) (Γ₁ := [("expected", .sh (.list (sl X))), ("actual", .sh (.list (sl Y))), ("i", .sh (.int (((Xp.length : Nat) : Int) + 1))), ("j", .sh (.int Yp.length)), ("missing", .own none (.list (sl M ++ [.str x]))), ("unexpected", .own none (.list (sl U))), ("e", .sh (.str x)), ("a", .sh (.str y))]) ?_ ?_ (T.toTab.blt _ _ (by rfl)) (by rfl)) (by simp))⟩
            · apply ExX.tail
              · (apply Ex1.assign; (apply Ev.sub; (apply EvB.sh; exact rfl; exact rfl; exact rfl); (apply EvB.sh; exact rfl; exact rfl; exact rfl); (apply SubR.list; (with_reducible assumption); (with_reducible assumption); (with_reducible assumption)); exact rfl); (apply Asg.name; exact T.O; decide); exact rfl; ((try delta autoParam); intros; rfl); ((try delta autoParam); intros; rfl))
              apply ExX.tail
              · (apply Ex1.assign; (apply Ev.sub; (apply EvB.sh; exact rfl; exact rfl; exact rfl); (apply EvB.sh; exact rfl; exact rfl; exact rfl); (apply SubR.list; (with_reducible assumption); (with_reducible assumption); (with_reducible assumption)); exact rfl); (apply Asg.name; exact T.O; decide); exact rfl; ((try delta autoParam); intros; rfl); ((try delta autoParam); intros; rfl))
              apply ExX.head
              apply ExX1.ife (EvT.cmp (EvB.sh (by rfl)) (EvB.sh (by rfl)) CmpR.lt_str)
              · intro _
                apply ExX.tail
                · (apply Ex1.exprM; (apply EvN.m; (apply EvN.meth; exact rfl; (apply EvL.n; (apply EvL.cons; (apply Ev.name; exact rfl; exact rfl; exact rfl); apply EvL.nil; exact rfl)); exact rfl; apply Meth.append; apply OfType.list; (apply MutR.append; exact T.O; (with_reducible assumption)); exact rfl; exact rfl; exact Nat.le_of_ble_eq_true rfl; exact rfl; exact rfl; ((try delta autoParam); intros; rfl))); ((try delta autoParam); intros; rfl))
                apply ExX.tail
                · (apply Ex1.aug; exact T.O; exact rfl; (apply Ev.b; apply Ev.cint); apply InpR.add_int; decide; exact rfl)
                exact ExX.head (ExX1.while_ T.toTab.O (EvTX.cmp (EvX.sub T.toTab.O (EvB.sh (by rfl)) (EvB.sh (by rfl)) hi i3)))
              · intro hb
                rw [h1'] at hb; cases hb
            · have e0 : sldF (f + 1) [] (y :: Yr) = ([], y :: Yr) := rfl
              rw [e0]
              have dX1 : X.drop (Xp ++ [x]).length = [] := by rw [eX]; simp
              have e1 : sl (M ++ [x]) = (sl M ++ [.str x]) ++ cut (sl X) (some (((Xp.length : Nat) : Int) + 1)) none := by
                rw [← ei, cut_from, dX1, sl_app]; simp [sl]
              refine byA (hand [] (y :: Yr) X.length _ (by simp) dY) fun _ e2 => ?_
              show Ex _ _ _ _ _ _ (sldZ (M ++ [x]) (U ++ y :: Yr))
              unfold sldZ
              rw [e1, e2]
              apply Ex.weak
              · (focus (apply Ex.cons; (case' x => (apply Ex1.exprM; (apply EvN.m; (apply EvN.meth; exact rfl; (apply EvL.n; (apply EvL.cons; (apply EvF.ev; (apply EvF.slice; exact T.O; (apply EvB.sh; exact rfl; exact rfl; exact rfl); (apply EvP.some; (apply Ev.name; exact rfl; exact rfl; exact rfl)); apply EvP.none; (with_reducible assumption))); apply EvL.nil; exact rfl)); exact rfl; apply Meth.extend; apply OfType.list; (apply MutR.extend; exact T.O; (with_reducible assumption)); exact rfl; exact rfl; exact Nat.le_of_ble_eq_true rfl; exact rfl; exact rfl; ((try delta autoParam); intros; rfl))); ((try delta autoParam); intros; rfl))))); (focus (apply Ex.cons; (case' x => (apply Ex1.exprM; (apply EvN.m; (apply EvN.meth; exact rfl; (apply EvL.n; (apply EvL.cons; (apply EvF.ev; (apply EvF.slice; exact T.O; (apply EvB.sh; exact rfl; exact rfl; exact rfl); (apply EvP.some; (apply Ev.name; exact rfl; exact rfl; exact rfl)); apply EvP.none; (with_reducible assumption))); apply EvL.nil; exact rfl)); exact rfl; apply Meth.extend; apply OfType.list; (apply MutR.extend; exact T.O; (with_reducible assumption)); exact rfl; exact rfl; exact Nat.le_of_ble_eq_true rfl; exact rfl; exact rfl; ((try delta autoParam); intros; rfl))); ((try delta autoParam); intros; rfl)))))
                refine Ex.stop Ex1.brk (by simp)
              · exact lkCons (by rfl) (lkCons (by rfl) lkNil)
          | cons x' Xr =>
            have hdx' : (sl X)[(((Xp.length : Nat) : Int) + 1).toNat]? = some (.str x') := by
              rw [← ei]; simp [sl, eX]
            have hne : (x' == x) = false := by
              rw [eX] at hX
              unfold Rising at hX
              exact Rising.ne (List.pairwise_append.mp hX).2.1
            refine byE (IH (x' :: Xr) (y :: Yr) (Xp ++ [x]) Yp (M ++ [x]) U (dec1 hf) (by rw [eX]; simp) eY (app100 lM lx) hU (appLe lM) lU) fun n w => ?_
            rw [List.append_assoc] at w
            refine ⟨n + 1, .turn (X₁ := sldG X Y (Xp ++ [x]).length Yp.length (M ++ [x]) U) (ExT.cons (Γ₁ := [("expected", .sh (.list (sl X))), ("actual", .sh (.list (sl Y))), ("i", .sh (.int (((Xp.length : Nat) : Int) + 1))), ("j", .sh (.int Yp.length)), ("missing", .own none (.list (sl M ++ [.str x]))), ("unexpected", .own none (.list (sl U))), ("e", .sh (.str x)), ("a", .sh (.str y))]) (ExT1.try_ (Ex.t ?_)) (ExT.weak ExT.nil ?_)) w⟩
            · (focus (apply Ex.cons; (case' x => (apply Ex1.assign; (apply Ev.sub; (apply EvB.sh; exact rfl; exact rfl; exact rfl); (apply EvB.sh; exact rfl; exact rfl; exact rfl); (apply SubR.list; (with_reducible assumption); (with_reducible assumption); (with_reducible assumption)); exact rfl); (apply Asg.name; exact T.O; decide); exact rfl; ((try delta autoParam); intros; rfl); ((try delta autoParam); intros; rfl))))); (focus (apply Ex.cons; (case' x => (apply Ex1.assign; (apply Ev.sub; (apply EvB.sh; exact rfl; exact rfl; exact rfl); (apply EvB.sh; exact rfl; exact rfl; exact rfl); (apply SubR.list; (with_reducible assumption); (with_reducible assumption); (with_reducible assumption)); exact rfl); (apply Asg.name; exact T.O; decide); exact rfl; ((try delta autoParam); intros; rfl); ((try delta autoParam); intros; rfl)))))
              refine Ex.cons (Ex1.ife (EvT.cmp (EvB.sh (by rfl)) (EvB.sh (by rfl)) CmpR.lt_str) (fun _ => ?_) (fun hb => ?_)) .nil
              · (focus (apply Ex.cons; (case' x => (apply Ex1.exprM; (apply EvN.m; (apply EvN.meth; exact rfl; (apply EvL.n; (apply EvL.cons; (apply Ev.name; exact rfl; exact rfl; exact rfl); apply EvL.nil; exact rfl)); exact rfl; apply Meth.append; apply OfType.list; (apply MutR.append; exact T.O; (with_reducible assumption)); exact rfl; exact rfl; exact Nat.le_of_ble_eq_true rfl; exact rfl; exact rfl; ((try delta autoParam); intros; rfl))); ((try delta autoParam); intros; rfl))))); (focus (apply Ex.cons; (case' x => (apply Ex1.aug; exact T.O; exact rfl; (apply Ev.b; apply Ev.cint); apply InpR.add_int; decide; exact rfl))))
                refine Ex.cons (Ex1.whileNo ?_) .nil
                rw [← hne]
                (apply EvT.cmp; (apply Ev.b; (apply Ev.sub; (apply EvB.sh; exact rfl; exact rfl; exact rfl); (apply EvB.sh; exact rfl; exact rfl; exact rfl); (apply SubR.list; (with_reducible assumption); (with_reducible assumption); (with_reducible assumption)); exact rfl)); (apply EvB.sh; exact rfl; exact rfl; exact rfl); apply CmpR.eq_str; exact rfl)
              · rw [h1'] at hb; cases hb
            · unfold sldG
              rw [ei, sl_app]
              exact fun y s hy => weakApp (X := [_, _]) hy
        · have h1' : decide (x.cps.toList < y.cps.toList) = false := by
            cases e : decide (x.cps.toList < y.cps.toList)
            · rfl
            · exact absurd e h1
          have huzy : (sl U ++ [D.str y]).length + (cut (sl Y) (some (((Yp.length : Nat) : Int) + 1)) none).length ≤ sizeLine := cutsz (slx101 hU) lY
          by_cases h2 : ltS y x = true
          · have er : sldF (f + 1 + 1) (x :: Xr) (y :: Yr) = ((sldF (f + 1) (x :: Xr) Yr).1, y :: (sldF (f + 1) (x :: Xr) Yr).2) := by
              rw [sldF, if_neg h1, if_pos h2]
            rw [er]
            have h2' : decide (y.cps.toList < x.cps.toList) = true := h2
            cases Yr with
            | nil =>
              have hj : ((sl Y).length : Int) ≤ ((Yp.length : Nat) : Int) + 1 := by rw [sl_len, eY]; simp
              refine ⟨0, .brk (ExT.stop (ExT1.caught T.toTab.O (c := false) (Γ₁ := [("expected", .sh (.list (sl X))), ("actual", .sh (.list (sl Y))), ("i", .sh (.int Xp.length)), ("j", .sh (.int (((Yp.length : Nat) : Int) + 1))), ("missing", .own none (.list (sl M))), ("unexpected", .own none (.list (sl U ++ [.str y]))), ("e", .sh (.str x)), ("a", .sh (.str y))]) ?_ ?_ (T.toTab.blt _ _ (by rfl)) (by rfl)) (by simp))⟩
              · apply ExX.tail
                · (apply Ex1.assign; (apply Ev.sub; (apply EvB.sh; exact rfl; exact rfl; exact rfl); (apply EvB.sh; exact rfl; exact rfl; exact rfl); (apply SubR.list; (with_reducible assumption); (with_reducible assumption); (with_reducible assumption)); exact rfl); (apply Asg.name; exact T.O; decide); exact rfl; ((try delta autoParam); intros; rfl); ((try delta autoParam); intros; rfl))
                apply ExX.tail
                · (apply Ex1.assign; (apply Ev.sub; (apply EvB.sh; exact rfl; exact rfl; exact rfl); (apply EvB.sh; exact rfl; exact rfl; exact rfl); (apply SubR.list; (with_reducible assumption); (with_reducible assumption); (with_reducible assumption)); exact rfl); (apply Asg.name; exact T.O; decide); exact rfl; ((try delta autoParam); intros; rfl); ((try delta autoParam); intros; rfl))
                apply ExX.head
                apply ExX1.ife (EvT.cmp (EvB.sh (by rfl)) (EvB.sh (by rfl)) CmpR.lt_str)
                · intro hb
                  rw [h1'] at hb; cases hb
                · intro _
                  apply ExX.head
                  apply ExX1.ife (EvT.cmp (EvB.sh (by rfl)) (EvB.sh (by rfl)) CmpR.gt_str)
                  · intro _
                    apply ExX.tail
                    · (apply Ex1.exprM; (apply EvN.m; (apply EvN.meth; exact rfl; (apply EvL.n; (apply EvL.cons; (apply Ev.name; exact rfl; exact rfl; exact rfl); apply EvL.nil; exact rfl)); exact rfl; apply Meth.append; apply OfType.list; (apply MutR.append; exact T.O; (with_reducible assumption)); exact rfl; exact rfl; exact Nat.le_of_ble_eq_true rfl; exact rfl; exact rfl; ((try delta autoParam); intros; rfl))); ((try delta autoParam); intros; rfl))
                    apply ExX.tail
                    · (apply Ex1.aug; exact T.O; exact rfl; (apply Ev.b; apply Ev.cint); apply InpR.add_int; decide; exact rfl)
                    exact ExX.head (ExX1.while_ T.toTab.O (EvTX.cmp (EvX.sub T.toTab.O (EvB.sh (by rfl)) (EvB.sh (by rfl)) hj j3)))
                  · intro hb
                    rw [h2'] at hb; cases hb
              · have e0 : sldF (f + 1) (x :: Xr) [] = (x :: Xr, []) := rfl
                rw [e0]
                have dY1 : Y.drop (Yp ++ [y]).length = [] := by rw [eY]; simp
                have e2 : sl (U ++ [y]) = (sl U ++ [.str y]) ++ cut (sl Y) (some (((Yp.length : Nat) : Int) + 1)) none := by
                  rw [← ej, cut_from, dY1, sl_app]; simp [sl]
                refine byA (hand (x :: Xr) [] _ Y.length dX (by simp)) fun e1 _ => ?_
                show Ex _ _ _ _ _ _ (sldZ (M ++ x :: Xr) (U ++ [y]))
                unfold sldZ
                rw [e1, e2]
                apply Ex.weak
                · (focus (apply Ex.cons; (case' x => (apply Ex1.exprM; (apply EvN.m; (apply EvN.meth; exact rfl; (apply EvL.n; (apply EvL.cons; (apply EvF.ev; (apply EvF.slice; exact T.O; (apply EvB.sh; exact rfl; exact rfl; exact rfl); (apply EvP.some; (apply Ev.name; exact rfl; exact rfl; exact rfl)); apply EvP.none; (with_reducible assumption))); apply EvL.nil; exact rfl)); exact rfl; apply Meth.extend; apply OfType.list; (apply MutR.extend; exact T.O; (with_reducible assumption)); exact rfl; exact rfl; exact Nat.le_of_ble_eq_true rfl; exact rfl; exact rfl; ((try delta autoParam); intros; rfl))); ((try delta autoParam); intros; rfl))))); (focus (apply Ex.cons; (case' x => (apply Ex1.exprM; (apply EvN.m; (apply EvN.meth; exact rfl; (apply EvL.n; (apply EvL.cons; (apply EvF.ev; (apply EvF.slice; exact T.O; (apply EvB.sh; exact rfl; exact rfl; exact rfl); (apply EvP.some; (apply Ev.name; exact rfl; exact rfl; exact rfl)); apply EvP.none; (with_reducible assumption))); apply EvL.nil; exact rfl)); exact rfl; apply Meth.extend; apply OfType.list; (apply MutR.extend; exact T.O; (with_reducible assumption)); exact rfl; exact rfl; exact Nat.le_of_ble_eq_true rfl; exact rfl; exact rfl; ((try delta autoParam); intros; rfl))); ((try delta autoParam); intros; rfl)))))
                  refine Ex.stop Ex1.brk (by simp)
                · exact lkCons (by rfl) (lkCons (by rfl) lkNil)
            | cons y' Yr =>
              have hdy' : (sl Y)[(((Yp.length : Nat) : Int) + 1).toNat]? = some (.str y') := by
                rw [← ej]; simp [sl, eY]
              have hne : (y' == y) = false := by
                rw [eY] at hY
                unfold Rising at hY
                exact Rising.ne (List.pairwise_append.mp hY).2.1
              refine byE (IH (x :: Xr) (y' :: Yr) Xp (Yp ++ [y]) M (U ++ [y]) (Nat.lt_of_succ_lt_succ hf) eX (by rw [eY]; simp) hM (app100 lU ly) lM (appLe lU)) fun n w => ?_
              rw [List.append_assoc] at w
              refine ⟨n + 1, .turn (X₁ := sldG X Y Xp.length (Yp ++ [y]).length M (U ++ [y])) (ExT.cons (Γ₁ := [("expected", .sh (.list (sl X))), ("actual", .sh (.list (sl Y))), ("i", .sh (.int Xp.length)), ("j", .sh (.int (((Yp.length : Nat) : Int) + 1))), ("missing", .own none (.list (sl M))), ("unexpected", .own none (.list (sl U ++ [.str y]))), ("e", .sh (.str x)), ("a", .sh (.str y))]) (ExT1.try_ (Ex.t ?_)) (ExT.weak ExT.nil ?_)) w⟩
              · (focus (apply Ex.cons; (case' x => (apply Ex1.assign; (apply Ev.sub; (apply EvB.sh; exact rfl; exact rfl; exact rfl); (apply EvB.sh; exact rfl; exact rfl; exact rfl); (apply SubR.list; (with_reducible assumption); (with_reducible assumption); (with_reducible assumption)); exact rfl); (apply Asg.name; exact T.O; decide); exact rfl; ((try delta autoParam); intros; rfl); ((try delta autoParam); intros; rfl))))); (focus (apply Ex.cons; (case' x => (apply Ex1.assign; (apply Ev.sub; (apply EvB.sh; exact rfl; exact rfl; exact rfl); (apply EvB.sh; exact rfl; exact rfl; exact rfl); (apply SubR.list; (with_reducible assumption); (with_reducible assumption); (with_reducible assumption)); exact rfl); (apply Asg.name; exact T.O; decide); exact rfl; ((try delta autoParam); intros; rfl); ((try delta autoParam); intros; rfl)))))
                refine Ex.cons (Ex1.ife (EvT.cmp (EvB.sh (by rfl)) (EvB.sh (by rfl)) CmpR.lt_str) (fun hb => ?_) (fun _ => ?_)) .nil
                · rw [h1'] at hb; cases hb
                · refine Ex.cons (Ex1.ife (EvT.cmp (EvB.sh (by rfl)) (EvB.sh (by rfl)) CmpR.gt_str) (fun _ => ?_) (fun hb => ?_)) .nil
                  · (focus (apply Ex.cons; (case' x => (apply Ex1.exprM; (apply EvN.m; (apply EvN.meth; exact rfl; (apply EvL.n; (apply EvL.cons; (apply Ev.name; exact rfl; exact rfl; exact rfl); apply EvL.nil; exact rfl)); exact rfl; apply Meth.append; apply OfType.list; (apply MutR.append; exact T.O; (with_reducible assumption)); exact rfl; exact rfl; exact Nat.le_of_ble_eq_true rfl; exact rfl; exact rfl; ((try delta autoParam); intros; rfl))); ((try delta autoParam); intros; rfl))))); (focus (apply Ex.cons; (case' x => (apply Ex1.aug; exact T.O; exact rfl; (apply Ev.b; apply Ev.cint); apply InpR.add_int; decide; exact rfl))))
                    refine Ex.cons (Ex1.whileNo ?_) .nil
                    rw [← hne]
                    (apply EvT.cmp; (apply Ev.b; (apply Ev.sub; (apply EvB.sh; exact rfl; exact rfl; exact rfl); (apply EvB.sh; exact rfl; exact rfl; exact rfl); (apply SubR.list; (with_reducible assumption); (with_reducible assumption); (with_reducible assumption)); exact rfl)); (apply EvB.sh; exact rfl; exact rfl; exact rfl); apply CmpR.eq_str; exact rfl)
                  · rw [h2'] at hb; cases hb
              · unfold sldG
                rw [ej, sl_app]
                exact fun y s hy => weakApp (X := [_, _]) hy
          · obtain rfl : x = y := eq_of_nlt h1 h2
            have er : sldF (f + 1 + 1) (x :: Xr) (x :: Yr) = sldF (f + 1) Xr Yr := by
              rw [sldF, if_neg h1, if_neg h1]
            rw [er]
            have dX1 : X.drop (Xp ++ [x]).length = Xr := by rw [eX]; simp
            have dY1 : Y.drop (Yp ++ [x]).length = Yr := by rw [eY]; simp
            have hmz2 : (sl M).length + (cut (sl X) (some (((Xp.length : Nat) : Int) + 1)) none).length ≤ sizeLine := cutsz (sl101 hM) lX
            have huz2 : (sl U).length + (cut (sl Y) (some (((Yp.length : Nat) : Int) + 1)) none).length ≤ sizeLine := cutsz (sl101 hU) lY
            match Xr, Yr, eX, eY, hf, lx, ly, lxc, lyc, IH, dX1, dY1 with
            | [], [], eX, eY, hf, lx, ly, lxc, lyc, IH, dX1, dY1 =>
              have hi : ((sl X).length : Int) ≤ ((Xp.length : Nat) : Int) + 1 := by rw [sl_len, eX]; simp
              have hj : ((sl Y).length : Int) ≤ ((Yp.length : Nat) : Int) + 1 := by rw [sl_len, eY]; simp
              refine ⟨0, .brk (ExT.stop (ExT1.caught T.toTab.O (c := true) (Γ₁ := [("expected", .sh (.list (sl X))), ("actual", .sh (.list (sl Y))), ("i", .sh (.int (((Xp.length : Nat) : Int) + 1))), ("j", .sh (.int (((Yp.length : Nat) : Int) + 1))), ("missing", .own none (.list (sl M))), ("unexpected", .own none (.list (sl U))), ("e", .sh (.str x)), ("a", .sh (.str x))]) ?_ ?_ (T.toTab.blt _ _ (by rfl)) (by rfl)) (by simp))⟩
              · skip
                apply ExX.tail
                · (apply Ex1.assign; (apply Ev.sub; (apply EvB.sh; exact rfl; exact rfl; exact rfl); (apply EvB.sh; exact rfl; exact rfl; exact rfl); (apply SubR.list; (with_reducible assumption); (with_reducible assumption); (with_reducible assumption)); exact rfl); (apply Asg.name; exact T.O; decide); exact rfl; ((try delta autoParam); intros; rfl); ((try delta autoParam); intros; rfl))
                apply ExX.tail
                · (apply Ex1.assign; (apply Ev.sub; (apply EvB.sh; exact rfl; exact rfl; exact rfl); (apply EvB.sh; exact rfl; exact rfl; exact rfl); (apply SubR.list; (with_reducible assumption); (with_reducible assumption); (with_reducible assumption)); exact rfl); (apply Asg.name; exact T.O; decide); exact rfl; ((try delta autoParam); intros; rfl); ((try delta autoParam); intros; rfl))
                apply ExX.head
                apply ExX1.ife (EvT.cmp (EvB.sh (by rfl)) (EvB.sh (by rfl)) CmpR.lt_str)
                · intro hb
                  rw [h1'] at hb; cases hb
                intro _
                apply ExX.head
                apply ExX1.ife (EvT.cmp (EvB.sh (by rfl)) (EvB.sh (by rfl)) CmpR.gt_str)
                · intro hb
                  rw [h1'] at hb; cases hb
                intro _
                apply ExX.tail
                · (apply Ex1.aug; exact T.O; exact rfl; (apply Ev.b; apply Ev.cint); apply InpR.add_int; decide; exact rfl)
                apply ExX.head
                refine ExX1.finBR T.toTab.O (c := false) (ExX.head (ExX1.while_ T.toTab.O (EvTX.cmp (EvX.sub T.toTab.O (EvB.sh (by rfl)) (EvB.sh (by rfl)) hi i3)))) ?_
                apply ExX.tail
                · (apply Ex1.aug; exact T.O; exact rfl; (apply Ev.b; apply Ev.cint); apply InpR.add_int; decide; exact rfl)
                exact ExX.head (ExX1.while_ T.toTab.O (EvTX.cmp (EvX.sub T.toTab.O (EvB.sh (by rfl)) (EvB.sh (by rfl)) hj j3)))
              · have e1 : sl (M ++ []) = sl M ++ cut (sl X) (some (((Xp.length : Nat) : Int) + 1)) none := by
                  rw [← ei, cut_from, sl_app, dX1]
                have e2 : sl (U ++ []) = sl U ++ cut (sl Y) (some (((Yp.length : Nat) : Int) + 1)) none := by
                  rw [← ej, cut_from, sl_app, dY1]
                show Ex _ _ _ _ _ _ (sldZ (M ++ []) (U ++ []))
                unfold sldZ
                rw [e1, e2]
                apply Ex.weak
                · (focus (apply Ex.cons; (case' x => (apply Ex1.exprM; (apply EvN.m; (apply EvN.meth; exact rfl; (apply EvL.n; (apply EvL.cons; (apply EvF.ev; (apply EvF.slice; exact T.O; (apply EvB.sh; exact rfl; exact rfl; exact rfl); (apply EvP.some; (apply Ev.name; exact rfl; exact rfl; exact rfl)); apply EvP.none; (with_reducible assumption))); apply EvL.nil; exact rfl)); exact rfl; apply Meth.extend; apply OfType.list; (apply MutR.extend; exact T.O; (with_reducible assumption)); exact rfl; exact rfl; exact Nat.le_of_ble_eq_true rfl; exact rfl; exact rfl; ((try delta autoParam); intros; rfl))); ((try delta autoParam); intros; rfl))))); (focus (apply Ex.cons; (case' x => (apply Ex1.exprM; (apply EvN.m; (apply EvN.meth; exact rfl; (apply EvL.n; (apply EvL.cons; (apply EvF.ev; (apply EvF.slice; exact T.O; (apply EvB.sh; exact rfl; exact rfl; exact rfl); (apply EvP.some; (apply Ev.name; exact rfl; exact rfl; exact rfl)); apply EvP.none; (with_reducible assumption))); apply EvL.nil; exact rfl)); exact rfl; apply Meth.extend; apply OfType.list; (apply MutR.extend; exact T.O; (with_reducible assumption)); exact rfl; exact rfl; exact Nat.le_of_ble_eq_true rfl; exact rfl; exact rfl; ((try delta autoParam); intros; rfl))); ((try delta autoParam); intros; rfl)))))
                  refine Ex.stop Ex1.brk (by simp)
                · exact lkCons (by rfl) (lkCons (by rfl) lkNil)
            | x' :: Xr, [], eX, eY, hf, lx, ly, lxc, lyc, IH, dX1, dY1 =>
              have hdx' : (sl X)[(((Xp.length : Nat) : Int) + 1).toNat]? = some (.str x') := by
                rw [← ei]; simp [sl, eX]
              have hne : (x' == x) = false := by
                rw [eX] at hX
                unfold Rising at hX
                exact Rising.ne (List.pairwise_append.mp hX).2.1
              have hj : ((sl Y).length : Int) ≤ ((Yp.length : Nat) : Int) + 1 := by rw [sl_len, eY]; simp
              refine ⟨0, .brk (ExT.stop (ExT1.caught T.toTab.O (c := false) (Γ₁ := [("expected", .sh (.list (sl X))), ("actual", .sh (.list (sl Y))), ("i", .sh (.int (((Xp.length : Nat) : Int) + 1))), ("j", .sh (.int (((Yp.length : Nat) : Int) + 1))), ("missing", .own none (.list (sl M))), ("unexpected", .own none (.list (sl U))), ("e", .sh (.str x)), ("a", .sh (.str x))]) ?_ ?_ (T.toTab.blt _ _ (by rfl)) (by rfl)) (by simp))⟩
              · skip
                apply ExX.tail
                · (apply Ex1.assign; (apply Ev.sub; (apply EvB.sh; exact rfl; exact rfl; exact rfl); (apply EvB.sh; exact rfl; exact rfl; exact rfl); (apply SubR.list; (with_reducible assumption); (with_reducible assumption); (with_reducible assumption)); exact rfl); (apply Asg.name; exact T.O; decide); exact rfl; ((try delta autoParam); intros; rfl); ((try delta autoParam); intros; rfl))
                apply ExX.tail
                · (apply Ex1.assign; (apply Ev.sub; (apply EvB.sh; exact rfl; exact rfl; exact rfl); (apply EvB.sh; exact rfl; exact rfl; exact rfl); (apply SubR.list; (with_reducible assumption); (with_reducible assumption); (with_reducible assumption)); exact rfl); (apply Asg.name; exact T.O; decide); exact rfl; ((try delta autoParam); intros; rfl); ((try delta autoParam); intros; rfl))
                apply ExX.head
                apply ExX1.ife (EvT.cmp (EvB.sh (by rfl)) (EvB.sh (by rfl)) CmpR.lt_str)
                · intro hb
                  rw [h1'] at hb; cases hb
                intro _
                apply ExX.head
                apply ExX1.ife (EvT.cmp (EvB.sh (by rfl)) (EvB.sh (by rfl)) CmpR.gt_str)
                · intro hb
                  rw [h1'] at hb; cases hb
                intro _
                apply ExX.tail
                · (apply Ex1.aug; exact T.O; exact rfl; (apply Ev.b; apply Ev.cint); apply InpR.add_int; decide; exact rfl)
                apply ExX.head
                apply ExX1.finR T.toTab.O (c := false)
                · refine Ex.cons (Ex1.whileNo ?_) .nil
                  rw [← hne]
                  (apply EvT.cmp; (apply Ev.b; (apply Ev.sub; (apply EvB.sh; exact rfl; exact rfl; exact rfl); (apply EvB.sh; exact rfl; exact rfl; exact rfl); (apply SubR.list; (with_reducible assumption); (with_reducible assumption); (with_reducible assumption)); exact rfl)); (apply EvB.sh; exact rfl; exact rfl; exact rfl); apply CmpR.eq_str; exact rfl)
                apply ExX.tail
                · (apply Ex1.aug; exact T.O; exact rfl; (apply Ev.b; apply Ev.cint); apply InpR.add_int; decide; exact rfl)
                exact ExX.head (ExX1.while_ T.toTab.O (EvTX.cmp (EvX.sub T.toTab.O (EvB.sh (by rfl)) (EvB.sh (by rfl)) hj j3)))
              · have e1 : sl (M ++ x' :: Xr) = sl M ++ cut (sl X) (some (((Xp.length : Nat) : Int) + 1)) none := by
                  rw [← ei, cut_from, sl_app, dX1]
                have e2 : sl (U ++ []) = sl U ++ cut (sl Y) (some (((Yp.length : Nat) : Int) + 1)) none := by
                  rw [← ej, cut_from, sl_app, dY1]
                show Ex _ _ _ _ _ _ (sldZ (M ++ x' :: Xr) (U ++ []))
                unfold sldZ
                rw [e1, e2]
                apply Ex.weak
                · (focus (apply Ex.cons; (case' x => (apply Ex1.exprM; (apply EvN.m; (apply EvN.meth; exact rfl; (apply EvL.n; (apply EvL.cons; (apply EvF.ev; (apply EvF.slice; exact T.O; (apply EvB.sh; exact rfl; exact rfl; exact rfl); (apply EvP.some; (apply Ev.name; exact rfl; exact rfl; exact rfl)); apply EvP.none; (with_reducible assumption))); apply EvL.nil; exact rfl)); exact rfl; apply Meth.extend; apply OfType.list; (apply MutR.extend; exact T.O; (with_reducible assumption)); exact rfl; exact rfl; exact Nat.le_of_ble_eq_true rfl; exact rfl; exact rfl; ((try delta autoParam); intros; rfl))); ((try delta autoParam); intros; rfl))))); (focus (apply Ex.cons; (case' x => (apply Ex1.exprM; (apply EvN.m; (apply EvN.meth; exact rfl; (apply EvL.n; (apply EvL.cons; (apply EvF.ev; (apply EvF.slice; exact T.O; (apply EvB.sh; exact rfl; exact rfl; exact rfl); (apply EvP.some; (apply Ev.name; exact rfl; exact rfl; exact rfl)); apply EvP.none; (with_reducible assumption))); apply EvL.nil; exact rfl)); exact rfl; apply Meth.extend; apply OfType.list; (apply MutR.extend; exact T.O; (with_reducible assumption)); exact rfl; exact rfl; exact Nat.le_of_ble_eq_true rfl; exact rfl; exact rfl; ((try delta autoParam); intros; rfl))); ((try delta autoParam); intros; rfl)))))
                  refine Ex.stop Ex1.brk (by simp)
                · exact lkCons (by rfl) (lkCons (by rfl) lkNil)
            | [], y' :: Yr, eX, eY, hf, lx, ly, lxc, lyc, IH, dX1, dY1 =>
              have hdy' : (sl Y)[(((Yp.length : Nat) : Int) + 1).toNat]? = some (.str y') := by
                rw [← ej]; simp [sl, eY]
              have hny : (y' == x) = false := by
                rw [eY] at hY
                unfold Rising at hY
                exact Rising.ne (List.pairwise_append.mp hY).2.1
              have hi : ((sl X).length : Int) ≤ ((Xp.length : Nat) : Int) + 1 := by rw [sl_len, eX]; simp
              refine ⟨0, .brk (ExT.stop (ExT1.caught T.toTab.O (c := false) (Γ₁ := [("expected", .sh (.list (sl X))), ("actual", .sh (.list (sl Y))), ("i", .sh (.int (((Xp.length : Nat) : Int) + 1))), ("j", .sh (.int (((Yp.length : Nat) : Int) + 1))), ("missing", .own none (.list (sl M))), ("unexpected", .own none (.list (sl U))), ("e", .sh (.str x)), ("a", .sh (.str x))]) ?_ ?_ (T.toTab.blt _ _ (by rfl)) (by rfl)) (by simp))⟩
              · skip
                apply ExX.tail
                · (apply Ex1.assign; (apply Ev.sub; (apply EvB.sh; exact rfl; exact rfl; exact rfl); (apply EvB.sh; exact rfl; exact rfl; exact rfl); (apply SubR.list; (with_reducible assumption); (with_reducible assumption); (with_reducible assumption)); exact rfl); (apply Asg.name; exact T.O; decide); exact rfl; ((try delta autoParam); intros; rfl); ((try delta autoParam); intros; rfl))
                apply ExX.tail
                · (apply Ex1.assign; (apply Ev.sub; (apply EvB.sh; exact rfl; exact rfl; exact rfl); (apply EvB.sh; exact rfl; exact rfl; exact rfl); (apply SubR.list; (with_reducible assumption); (with_reducible assumption); (with_reducible assumption)); exact rfl); (apply Asg.name; exact T.O; decide); exact rfl; ((try delta autoParam); intros; rfl); ((try delta autoParam); intros; rfl))
                apply ExX.head
                apply ExX1.ife (EvT.cmp (EvB.sh (by rfl)) (EvB.sh (by rfl)) CmpR.lt_str)
                · intro hb
                  rw [h1'] at hb; cases hb
                intro _
                apply ExX.head
                apply ExX1.ife (EvT.cmp (EvB.sh (by rfl)) (EvB.sh (by rfl)) CmpR.gt_str)
                · intro hb
                  rw [h1'] at hb; cases hb
                intro _
                apply ExX.tail
                · (apply Ex1.aug; exact T.O; exact rfl; (apply Ev.b; apply Ev.cint); apply InpR.add_int; decide; exact rfl)
                apply ExX.head
                refine ExX1.finB T.toTab.O (ExX.head (ExX1.while_ T.toTab.O (EvTX.cmp (EvX.sub T.toTab.O (EvB.sh (by rfl)) (EvB.sh (by rfl)) hi i3)))) ?_
                (focus (apply Ex.cons; (case' x => (apply Ex1.aug; exact T.O; exact rfl; (apply Ev.b; apply Ev.cint); apply InpR.add_int; decide; exact rfl))))
                refine Ex.cons (Ex1.whileNo ?_) .nil
                rw [← hny]
                (apply EvT.cmp; (apply Ev.b; (apply Ev.sub; (apply EvB.sh; exact rfl; exact rfl; exact rfl); (apply EvB.sh; exact rfl; exact rfl; exact rfl); (apply SubR.list; (with_reducible assumption); (with_reducible assumption); (with_reducible assumption)); exact rfl)); (apply EvB.sh; exact rfl; exact rfl; exact rfl); apply CmpR.eq_str; exact rfl)
              · have e1 : sl (M ++ []) = sl M ++ cut (sl X) (some (((Xp.length : Nat) : Int) + 1)) none := by
                  rw [← ei, cut_from, sl_app, dX1]
                have e2 : sl (U ++ y' :: Yr) = sl U ++ cut (sl Y) (some (((Yp.length : Nat) : Int) + 1)) none := by
                  rw [← ej, cut_from, sl_app, dY1]
                show Ex _ _ _ _ _ _ (sldZ (M ++ []) (U ++ y' :: Yr))
                unfold sldZ
                rw [e1, e2]
                apply Ex.weak
                · (focus (apply Ex.cons; (case' x => (apply Ex1.exprM; (apply EvN.m; (apply EvN.meth; exact rfl; (apply EvL.n; (apply EvL.cons; (apply EvF.ev; (apply EvF.slice; exact T.O; (apply EvB.sh; exact rfl; exact rfl; exact rfl); (apply EvP.some; (apply Ev.name; exact rfl; exact rfl; exact rfl)); apply EvP.none; (with_reducible assumption))); apply EvL.nil; exact rfl)); exact rfl; apply Meth.extend; apply OfType.list; (apply MutR.extend; exact T.O; (with_reducible assumption)); exact rfl; exact rfl; exact Nat.le_of_ble_eq_true rfl; exact rfl; exact rfl; ((try delta autoParam); intros; rfl))); ((try delta autoParam); intros; rfl))))); (focus (apply Ex.cons; (case' x => (apply Ex1.exprM; (apply EvN.m; (apply EvN.meth; exact rfl; (apply EvL.n; (apply EvL.cons; (apply EvF.ev; (apply EvF.slice; exact T.O; (apply EvB.sh; exact rfl; exact rfl; exact rfl); (apply EvP.some; (apply Ev.name; exact rfl; exact rfl; exact rfl)); apply EvP.none; (with_reducible assumption))); apply EvL.nil; exact rfl)); exact rfl; apply Meth.extend; apply OfType.list; (apply MutR.extend; exact T.O; (with_reducible assumption)); exact rfl; exact rfl; exact Nat.le_of_ble_eq_true rfl; exact rfl; exact rfl; ((try delta autoParam); intros; rfl))); ((try delta autoParam); intros; rfl)))))
                  refine Ex.stop Ex1.brk (by simp)
                · exact lkCons (by rfl) (lkCons (by rfl) lkNil)
            | x' :: Xr, y' :: Yr, eX, eY, hf, lx, ly, lxc, lyc, IH, dX1, dY1 =>
              have hdx' : (sl X)[(((Xp.length : Nat) : Int) + 1).toNat]? = some (.str x') := by
                rw [← ei]; simp [sl, eX]
              have hne : (x' == x) = false := by
                rw [eX] at hX
                unfold Rising at hX
                exact Rising.ne (List.pairwise_append.mp hX).2.1
              have hdy' : (sl Y)[(((Yp.length : Nat) : Int) + 1).toNat]? = some (.str y') := by
                rw [← ej]; simp [sl, eY]
              have hny : (y' == x) = false := by
                rw [eY] at hY
                unfold Rising at hY
                exact Rising.ne (List.pairwise_append.mp hY).2.1
              refine byE (IH (x' :: Xr) (y' :: Yr) (Xp ++ [x]) (Yp ++ [x]) M U (Nat.lt_succ_of_lt (dec3 hf)) (by rw [eX]; simp) (by rw [eY]; simp) hM hU (appLe' lM) (appLe' lU)) fun n w => ?_
              refine ⟨n + 1, .turn (X₁ := sldG X Y (Xp ++ [x]).length (Yp ++ [x]).length M U) (ExT.cons (Γ₁ := [("expected", .sh (.list (sl X))), ("actual", .sh (.list (sl Y))), ("i", .sh (.int (((Xp.length : Nat) : Int) + 1))), ("j", .sh (.int (((Yp.length : Nat) : Int) + 1))), ("missing", .own none (.list (sl M))), ("unexpected", .own none (.list (sl U))), ("e", .sh (.str x)), ("a", .sh (.str x))]) (ExT1.try_ (Ex.t ?_)) (ExT.weak ExT.nil ?_)) w⟩
              · (focus (apply Ex.cons; (case' x => (apply Ex1.assign; (apply Ev.sub; (apply EvB.sh; exact rfl; exact rfl; exact rfl); (apply EvB.sh; exact rfl; exact rfl; exact rfl); (apply SubR.list; (with_reducible assumption); (with_reducible assumption); (with_reducible assumption)); exact rfl); (apply Asg.name; exact T.O; decide); exact rfl; ((try delta autoParam); intros; rfl); ((try delta autoParam); intros; rfl))))); (focus (apply Ex.cons; (case' x => (apply Ex1.assign; (apply Ev.sub; (apply EvB.sh; exact rfl; exact rfl; exact rfl); (apply EvB.sh; exact rfl; exact rfl; exact rfl); (apply SubR.list; (with_reducible assumption); (with_reducible assumption); (with_reducible assumption)); exact rfl); (apply Asg.name; exact T.O; decide); exact rfl; ((try delta autoParam); intros; rfl); ((try delta autoParam); intros; rfl)))))
                refine Ex.cons (Ex1.ife (EvT.cmp (EvB.sh (by rfl)) (EvB.sh (by rfl)) CmpR.lt_str) (fun hb => ?_) (fun _ => ?_)) .nil
                · rw [h1'] at hb; cases hb
                · refine Ex.cons (Ex1.ife (EvT.cmp (EvB.sh (by rfl)) (EvB.sh (by rfl)) CmpR.gt_str) (fun hb => ?_) (fun _ => ?_)) .nil
                  · rw [h1'] at hb; cases hb
                  · (focus (apply Ex.cons; (case' x => (apply Ex1.aug; exact T.O; exact rfl; (apply Ev.b; apply Ev.cint); apply InpR.add_int; decide; exact rfl))))
                    apply Ex.cons
                    · apply Ex1.finally_
                      · refine Ex.cons (Ex1.whileNo ?_) .nil
                        rw [← hne]
                        (apply EvT.cmp; (apply Ev.b; (apply Ev.sub; (apply EvB.sh; exact rfl; exact rfl; exact rfl); (apply EvB.sh; exact rfl; exact rfl; exact rfl); (apply SubR.list; (with_reducible assumption); (with_reducible assumption); (with_reducible assumption)); exact rfl)); (apply EvB.sh; exact rfl; exact rfl; exact rfl); apply CmpR.eq_str; exact rfl)
                      · (focus (apply Ex.cons; (case' x => (apply Ex1.aug; exact T.O; exact rfl; (apply Ev.b; apply Ev.cint); apply InpR.add_int; decide; exact rfl))))
                        refine Ex.cons (Ex1.whileNo ?_) .nil
                        rw [← hny]
                        (apply EvT.cmp; (apply Ev.b; (apply Ev.sub; (apply EvB.sh; exact rfl; exact rfl; exact rfl); (apply EvB.sh; exact rfl; exact rfl; exact rfl); (apply SubR.list; (with_reducible assumption); (with_reducible assumption); (with_reducible assumption)); exact rfl)); (apply EvB.sh; exact rfl; exact rfl; exact rfl); apply CmpR.eq_str; exact rfl)
                    · exact .nil
              · unfold sldG
                rw [ei, ej]
                exact fun y s hy => weakApp (X := [_, _]) hy
open PySem PySem.W PySem.Calls PyProof.Rows
structure Tab6 (B : Base) : Prop extends Tab5 B where
  drawn : FnAt B "_law_drawn" d_law_drawn_args d_law_drawn_body d_law_drawn_scope
variable {B : Base} {k : Nat}
noncomputable def addC : Nat → List Int → List Int → List Int
  | _, [], c => c
  | k, x :: l, c => addC (k + 1) l (c.set ((k : Int).fmod 4).toNat (c.getD ((k : Int).fmod 4).toNat 0 + x.fmod 10000000))
noncomputable def pool : List Str := ["\t", "\n", "\"", "\r", "&", "&lt;", "#", "'", "<", "=", ">", "a"]
noncomputable def textAt (c k : Int) : Str := pool.getD ((c.fdiv 5 + k).fmod 12).toNat ""
noncomputable def digs : Int → List Int → List Int
  | _, [] => []
  | r, k :: l => r.fmod k :: digs (r.fdiv k) l
noncomputable def insO : Int → List Int → List Int → List Int
  | _, [], o => o
  | r, k :: l, o => insO (r.fdiv k) l (o.take (r.fmod k).toNat ++ [k] ++ o.drop (r.fmod k).toNat)
noncomputable def drawnD (c : List Int) : D := .tup [.int ((c.getD 0 0).fmod 5), .list (sl ([0, 1, 2, 3].map (textAt (c.getD 0 0)))), .list (il (0 :: digs (c.getD 1 0) [1, 2, 3, 4])),
  .list [.list (il (insO (c.getD 2 0) [1, 2, 3, 4] [])), .list (il (insO (c.getD 3 0) [1, 2, 3, 4] []))]]
theorem addC_len : ∀ (l : List Int) (k : Nat) (c : List Int), (addC k l c).length = c.length
  | [], _, _ => rfl
  | x :: l, k, c => by rw [addC, addC_len l]; simp
noncomputable def restO : Int → List Int → Int
  | r, [] => r
  | r, k :: l => restO (r.fdiv k) l
noncomputable def ups : Nat → Nat → List Int
  | _, 0 => []
  | n, m + 1 => (n : Int) :: ups (n + 1) m
theorem divSmall {x y : Int} (h : y.natAbs < 2 ^ 60) : Builtin.divisionGoesByPylong x y = false := by
  unfold Builtin.divisionGoesByPylong
  by_cases h0 : y = 0
  · subst h0; rfl
  · have : y.natAbs.log2 < 60 := (Nat.log2_lt (by omega)).mpr h
    simp [h0]
    intro h; omega
theorem fmodNN (a : Int) {b : Int} (h : 0 < b) : 0 ≤ a.fmod b := by
  rw [Int.fmod_eq_emod_of_nonneg a (by omega)]; exact Int.emod_nonneg _ (by omega)
set_option maxHeartbeats 4000000 in
theorem c_drawn (T' : Tab6 B) {script : List Int} (hl : script.length ≤ sizeLine) : Calls B (k + 2) "_law_drawn" [.list (il script)] (drawnD (addC 0 (script.take 60) [17, 21, 20, 14])) := by
  have T := T'.toTab2
  have big : (60 : Nat) ≤ sizeLine := by decide
  refine Calls.of (o := .ret (drawnD (addC 0 (script.take 60) [17, 21, 20, 14]))) (xs := ["script"]) (Γ' := []) T.toTab.O T'.drawn (.plain (fun _ _ _ => len1 fun _ => rfl)) (by simp) ?_
  (focus (apply Ex.cons; (case' x => (apply Ex1.assignF; exact T.O; (apply EvF.list; exact T.O; (apply EvL.cons; apply Ev.cint; (apply EvL.cons; apply Ev.cint; (apply EvL.cons; apply Ev.cint; (apply EvL.cons; apply Ev.cint; apply EvL.nil; exact rfl); exact rfl); exact rfl); exact rfl); exact Nat.le_of_ble_eq_true rfl); decide; ((try delta autoParam); intros; rfl)))))
  refine Ex.cons (Γ₁ := [("script", .sh (.list (il script))), ("cells", .own none (.list (il (addC 0 (script.take 60) [17, 21, 20, 14]))))]) ?_ ?_
  · have hz : (il script).length ≤ sizeLine := by simpa [il] using hl
    have e : cut (il script) none (some 60) = il (script.take 60) := (cut_takes _ 60).trans (List.map_take ..).symm
    refine Ex1.for_ (ds := numD 0 (il (script.take 60))) (EvI.enum T.toTab.O (T.toTab.blt _ _ (by rfl)) (by rfl) (EvL.cons (by rw [← e]; (apply EvF.ev; (apply EvF.slice; exact T.O; (apply EvB.sh; exact rfl; exact rfl; exact rfl); apply EvP.none; (apply EvP.some; apply Ev.cint); (with_reducible assumption)))) .nil)) ?_
    refine (?_ : ∀ (rest : List Int) (n : Nat) (c : List Int) (hc : c.length = 4), Loop B _ _ _ _ [("script", .sh (.list (il script))), ("cells", .own none (.list (il c)))] (numD n (il rest)) .next [("script", .sh (.list (il script))), ("cells", .own none (.list (il (addC n rest c))))]) (script.take 60) 0 [17, 21, 20, 14] rfl
    intro rest
    induction rest with
    | nil => intro n c hc; exact .done
    | cons x rest IH =>
      intro n c hc
      have h0 : 0 ≤ (n : Int).fmod 4 := fmodNN _ (by omega)
      have h4 : (n : Int).fmod 4 < 4 := Int.fmod_lt_of_pos _ (by omega)
      have h5 : (n : Int).fmod 4 < 2 ^ 63 := by omega
      have hlen : ((n : Int).fmod 4).toNat < (il c).length := by simp only [il, List.length_map]; omega
      have hzc : (il c).length ≤ sizeLine := by simp only [il, List.length_map]; omega
      have hd : (il c)[((n : Int).fmod 4).toNat]? = some (.int (c.getD ((n : Int).fmod 4).toNat 0)) := by
        simp only [il, List.length_map] at hlen
        simp [il, hlen]
      apply Loop.step'
      · exact IH (n + 1) (c.set ((n : Int).fmod 4).toNat (c.getD ((n : Int).fmod 4).toNat 0 + x.fmod 10000000)) (by simpa using hc)
      · (apply Asg.tup; exact T.O; (apply AsgL.cons; (apply Asg.name; exact T.O; decide); (apply AsgL.cons; (apply Asg.name; exact T.O; decide); apply AsgL.nil; exact rfl); exact rfl); exact rfl; exact rfl)
      · apply Ex.weak
        · (focus (apply Ex.cons; (case y => apply Ex.nil); (case' x => (focus (apply Ex1.augItem; (case hx => exact rfl); (case w => (apply Ev.bin; (apply EvB.sh; exact rfl; exact rfl; exact rfl); (apply Ev.b; apply Ev.cint); (apply BinR.mod_int; decide))); (case u => (apply Ev.bin; (apply EvB.sh; exact rfl; exact rfl; exact rfl); (apply Ev.b; apply Ev.cint); (apply BinR.mod_int; decide))); (apply SubR.list; (with_reducible assumption); (with_reducible assumption); (with_reducible assumption)); apply InpR.add_int; (apply SetR.listI; exact T.O; (with_reducible assumption); (with_reducible assumption); (with_reducible assumption)); ((try delta autoParam); intros; rfl); exact rfl; exact rfl)))))
        · have e2 : il (c.set ((n : Int).fmod 4).toNat (c.getD ((n : Int).fmod 4).toNat 0 + x.fmod 10000000)) = (il c).set ((n : Int).fmod 4).toNat (.int (c.getD ((n : Int).fmod 4).toNat 0 + x.fmod 10000000)) := by
            simp [il, List.map_set]
          rw [e2]
          exact fun y s hy => weakApp (X := [_, _]) hy
  obtain ⟨c0, c1, c2, c3, hc⟩ : ∃ c0 c1 c2 c3, addC 0 (script.take 60) [17, 21, 20, 14] = [c0, c1, c2, c3] := by
    have := addC_len (script.take 60) 0 [17, 21, 20, 14]
    match addC 0 (script.take 60) [17, 21, 20, 14], this with
    | [a, b, c, d], _ => exact ⟨a, b, c, d, rfl⟩
  rw [hc]
  (focus (apply Ex.cons; (case' x => (apply Ex1.assignF; exact T.O; (apply EvF.list; exact T.O; (apply EvL.cons; apply Ev.cstr; (apply EvL.cons; apply Ev.cstr; (apply EvL.cons; apply Ev.cstr; (apply EvL.cons; apply Ev.cstr; (apply EvL.cons; apply Ev.cstr; (apply EvL.cons; apply Ev.cstr; (apply EvL.cons; apply Ev.cstr; (apply EvL.cons; apply Ev.cstr; (apply EvL.cons; apply Ev.cstr; (apply EvL.cons; apply Ev.cstr; (apply EvL.cons; apply Ev.cstr; (apply EvL.cons; apply Ev.cstr; apply EvL.nil; exact rfl); exact rfl); exact rfl); exact rfl); exact rfl); exact rfl); exact rfl); exact rfl); exact rfl); exact rfl); exact rfl); exact rfl); exact Nat.le_of_ble_eq_true rfl); decide; ((try delta autoParam); intros; rfl)))))
  refine Ex.cons (Ex1.assignC (cx := false) (out := sl ([0, 1, 2, 3].map (textAt c0))) T.toTab.O (EvI.b (EvI.range1 T.toTab.O (T.toTab.blt _ _ (by rfl)) (by rfl) (n := 4) (EvLB.cons (Ev.cint.b) .nil) (by decide) (by decide))) (by exact ScOk.of (by rfl) (by rfl) (by rfl) (by intros; rfl) (by intros; rfl)) (by rfl) ?_ (by show 4 ≤ sizeLine; decide) (.inl (by rfl)) (by intros; rfl) (fun env eo => swapsC (by rfl) (by rfl) (by rfl) env eo)) ?_
  · refine (CompR.map D.int (fun k => .str (textAt c0 k)) [0, 1, 2, 3] fun k m => ?_)
    have h0 : 0 ≤ (c0.fdiv 5 + k).fmod 12 := fmodNN _ (by omega)
    have h4 : (c0.fdiv 5 + k).fmod 12 < 12 := Int.fmod_lt_of_pos _ (by omega)
    have h5 : (c0.fdiv 5 + k).fmod 12 < 2 ^ 63 := by omega
    have hd : (sl pool)[((c0.fdiv 5 + k).fmod 12).toNat]? = some (.str (textAt c0 k)) := by
      have : ((c0.fdiv 5 + k).fmod 12).toNat < pool.length := by show _ < 12; omega
      simp [sl, textAt, this]
    exact Ev.sub (d₁ := .list (sl pool)) (EvB.own (by rfl)) (by (apply Ev.b; (apply Ev.bin; (apply Ev.b; (apply Ev.bin; (apply Ev.b; (apply Ev.bin; (apply Ev.b; (apply Ev.sub; (apply EvB.own; exact rfl; exact rfl; exact rfl); (apply Ev.b; apply Ev.cint); (apply SubR.list; decide; decide; exact rfl); exact rfl)); (apply Ev.b; apply Ev.cint); (apply BinR.div_int; decide; exact rfl))); (apply EvB.sh; exact rfl; exact rfl; exact rfl); apply BinR.add_int)); (apply Ev.b; apply Ev.cint); (apply BinR.mod_int; decide)))) (SubR.list h0 h5 hd)
  (focus (apply Ex.cons; (case' x => (apply Ex1.assignF; exact T.O; (apply EvF.list; exact T.O; (apply EvL.cons; apply Ev.cint; apply EvL.nil; exact rfl); exact Nat.le_of_ble_eq_true rfl); decide; ((try delta autoParam); intros; rfl)))))
  (focus (apply Ex.cons; (case' x => (apply Ex1.assign; (apply Ev.sub; (apply EvB.own; exact rfl; exact rfl; exact rfl); (apply Ev.b; apply Ev.cint); (apply SubR.list; decide; decide; exact rfl); exact rfl); (apply Asg.name; exact T.O; decide); exact rfl; ((try delta autoParam); intros; rfl); ((try delta autoParam); intros; rfl)))))
  refine Ex.cons (Γ₁ := ?G1) (Ex1.for_ (ds := il [1, 2, 3, 4]) (EvI.range2 T.toTab.O (T.toTab.blt _ _ (by rfl)) (by rfl) (n := 4) (EvLB.cons (Ev.cint.b) (EvLB.cons (Ev.cint.b) .nil)) (by decide) (by decide)) ?L1) ?_
  case L1 =>
    iterate 4 (apply Loop.step'; rotate_left; (apply Asg.name; exact T.O; decide); (focus (apply Ex.cons; (case' x => (apply Ex1.assign; (apply Ev.blt; exact T.O; exact T.blt _ _ (by rfl); exact rfl; (apply EvLB.cons; (apply EvB.sh; exact rfl; exact rfl; exact rfl); (apply EvLB.cons; (apply EvB.sh; exact rfl; exact rfl; exact rfl); apply EvLB.nil; exact rfl); exact rfl); (apply BltR.divmod; exact T.O; decide; exact rfl); exact rfl; exact rfl; exact rfl); (apply Asg.tup; exact T.O; (apply AsgL.cons; (apply Asg.name; exact T.O; decide); (apply AsgL.cons; (apply Asg.name; exact T.O; decide); apply AsgL.nil; exact rfl); exact rfl); exact rfl; exact rfl); exact rfl; ((try delta autoParam); intros; rfl); ((try delta autoParam); intros; rfl))))); (show Ex _ _ _ [_, _, _, _, _, _, _, _] _ _ _); (focus (apply Ex.cons; (case y => apply Ex.nil); (case' x => (apply Ex1.exprM; (apply EvN.m; (apply EvN.meth; exact rfl; (apply EvL.n; (apply EvL.cons; (apply Ev.name; exact rfl; exact rfl; exact rfl); apply EvL.nil; exact rfl)); exact rfl; apply Meth.append; apply OfType.list; (apply MutR.append; exact T.O; exact Nat.le_of_ble_eq_true rfl); exact rfl; exact rfl; exact Nat.le_of_ble_eq_true rfl; exact rfl; exact rfl; ((try delta autoParam); intros; rfl))); ((try delta autoParam); intros; rfl))))))
    exact .done
  (show Ex _ _ _ [_, _, _, _, _, _, _, _] _ _ _)
  (focus (apply Ex.cons; (case' x => (apply Ex1.assignF; exact T.O; (apply EvF.list; exact T.O; apply EvL.nil; exact Nat.le_of_ble_eq_true rfl); decide; ((try delta autoParam); intros; rfl)))))
  let Go : List D → G := fun os => [("cells", .own none (.list (il [c0, c1, c2, c3]))), ("texts", .own none (.list (sl (List.map (textAt c0) [0, 1, 2, 3])))), ("above", .own none (.list (il (0 :: digs c1 [1, 2, 3, 4])))), ("orders", .own none (.list os))]
  refine Ex.pre (Γ₂ := Go []) ?_ ?_
  rotate_left
  · intro y s hy
    simp only [Go, List.lookup] at hy
    repeat' (split at hy; · (rename_i he; rw [beq_iff_eq.mp he]; exact hy))
    cases hy
  let oo : Int → D := fun c => .list (il (insO c [1, 2, 3, 4] []))
  refine Ex.cons (Γ₁ := Go [oo c2, oo c3]) (Ex1.for_ (ds := il [c2, c3]) (EvI.list T.toTab.O (ds := il [c2, c3]) ?_) ?_) ?_
  · have e : il [c2, c3] = cut (il [c0, c1, c2, c3]) (some 2) none := rfl
    have hzc : (il [c0, c1, c2, c3]).length ≤ sizeLine := by show 4 ≤ sizeLine; decide
    rw [e]
    (apply EvF.ev; (apply EvF.slice; exact T.O; (apply EvB.own; exact rfl; exact rfl; exact rfl); (apply EvP.some; apply Ev.cint); apply EvP.none; (with_reducible assumption)))
  · refine (?_ : ∀ (l : List Int) (os : List D) (hz : os.length + l.length ≤ 60), Loop B _ _ _ _ (Go os) (il l) .next (Go (os ++ l.map oo))) [c2, c3] [] (Nat.le_of_ble_eq_true rfl)
    intro l
    induction l with
    | nil => intro os hz; rw [List.map_nil, List.append_nil]; exact .done
    | cons c l IH =>
      intro os hz
      have hzo : os.length + 1 ≤ sizeLine := by simp at hz; omega
      apply Loop.step'
      · have := IH (os ++ [oo c]) (by simp at hz ⊢; omega)
        rw [List.append_assoc] at this
        exact this
      · (apply Asg.name; exact T.O; decide)
      · (focus (apply Ex.cons; (case' x => (apply Ex1.assign; (apply Ev.name; exact rfl; exact rfl; exact rfl); (apply Asg.name; exact T.O; decide); exact rfl; ((try delta autoParam); intros; rfl); ((try delta autoParam); intros; rfl)))))
        (focus (apply Ex.cons; (case' x => (apply Ex1.assignF; exact T.O; (apply EvF.list; exact T.O; apply EvL.nil; exact Nat.le_of_ble_eq_true rfl); decide; ((try delta autoParam); intros; rfl)))))
        let Gm : Int → List Int → G := fun r o => [("cells", .own none (.list (il [c0, c1, c2, c3]))), ("texts", .own none (.list (sl (List.map (textAt c0) [0, 1, 2, 3])))), ("above", .own none (.list (il (0 :: digs c1 [1, 2, 3, 4])))), ("orders", .own none (.list os)), ("cell", .sh (.int c)), ("rest", .sh (.int r)), ("order", .own none (.list (il o)))]
        refine Ex.cons (Γ₁ := Gm (restO c (ups 1 4)) (insO c (ups 1 4) [])) (Ex1.for_ (ds := il (ups 1 4)) (EvI.range2 T.toTab.O (T.toTab.blt _ _ (by rfl)) (by rfl) (n := 4) (EvLB.cons (Ev.cint.b) (EvLB.cons (Ev.cint.b) .nil)) (by decide) (by decide)) ?_) ?_
        · refine (?_ : ∀ (m n : Nat) (r : Int) (o : List Int) (ho : o.length = n) (hm : n + m ≤ 60), Loop B _ _ _ _ (Gm r o) (il (ups (n + 1) m)) .next (Gm (restO r (ups (n + 1) m)) (insO r (ups (n + 1) m) o))) 4 0 c [] rfl (by decide)
          intro m
          induction m with
          | zero => intro n r o ho hm; exact .done
          | succ m IHm =>
            intro n r o ho hm
            have hn : ((n + 1 : Nat) : Int) = (n : Int) + 1 := rfl
            have hdz : Builtin.divisionGoesByPylong r ((n + 1 : Nat) : Int) = false := divSmall (by omega)
            have hne : ((n + 1 : Nat) : Int) ≠ 0 := by omega
            have h0 : 0 ≤ r.fmod ((n + 1 : Nat) : Int) := fmodNN _ (by omega)
            have h1 : r.fmod ((n + 1 : Nat) : Int) < ((n + 1 : Nat) : Int) := Int.fmod_lt_of_pos _ (by omega)
            have hl : (r.fmod ((n + 1 : Nat) : Int)).toNat ≤ (il o).length := by simp only [il, List.length_map]; omega
            have hz : (il o).length ≤ sizeLine := by simp only [il, List.length_map]; omega
            apply Loop.step'
            · exact IHm (n + 1) (r.fdiv ((n + 1 : Nat) : Int)) (o.take (r.fmod ((n + 1 : Nat) : Int)).toNat ++ [((n + 1 : Nat) : Int)] ++ o.drop (r.fmod ((n + 1 : Nat) : Int)).toNat) (by simp; omega) (by omega)
            · (apply Asg.name; exact T.O; decide)
            · apply Ex.weak
              · (focus (apply Ex.cons; (case' x => (apply Ex1.assign; (apply Ev.blt; exact T.O; exact T.blt _ _ (by rfl); exact rfl; (apply EvLB.cons; (apply EvB.sh; exact rfl; exact rfl; exact rfl); (apply EvLB.cons; (apply EvB.sh; exact rfl; exact rfl; exact rfl); apply EvLB.nil; exact rfl); exact rfl); (apply BltR.divmod; exact T.O; (with_reducible assumption); (with_reducible assumption)); exact rfl; exact rfl; exact rfl); (apply Asg.tup; exact T.O; (apply AsgL.cons; (apply Asg.name; exact T.O; decide); (apply AsgL.cons; (apply Asg.name; exact T.O; decide); apply AsgL.nil; exact rfl); exact rfl); exact rfl; exact rfl); exact rfl; ((try delta autoParam); intros; rfl); ((try delta autoParam); intros; rfl))))); (focus (apply Ex.cons; (case y => apply Ex.nil); (case' x => (apply Ex1.exprM; (apply EvN.m; (apply EvN.meth; exact rfl; (apply EvL.n; (apply EvL.cons; (apply Ev.name; exact rfl; exact rfl; exact rfl); (apply EvL.cons; (apply Ev.name; exact rfl; exact rfl; exact rfl); apply EvL.nil; exact rfl); exact rfl)); exact rfl; apply Meth.insert; apply OfType.list; (apply MutR.insertI; exact T.O; (with_reducible assumption); (with_reducible assumption); (with_reducible assumption)); exact rfl; exact rfl; exact Nat.le_of_ble_eq_true rfl; exact rfl; exact rfl; ((try delta autoParam); intros; rfl))); ((try delta autoParam); intros; rfl)))))
              · have e2 : il (o.take (r.fmod ((n + 1 : Nat) : Int)).toNat ++ [((n + 1 : Nat) : Int)] ++ o.drop (r.fmod ((n + 1 : Nat) : Int)).toNat) = (il o).take (r.fmod ((n + 1 : Nat) : Int)).toNat ++ [.int ((n + 1 : Nat) : Int)] ++ (il o).drop (r.fmod ((n + 1 : Nat) : Int)).toNat := by
                  simp [il, List.map_take, List.map_drop]
                show ∀ y sl, (Gm _ _).lookup y = some sl → _
                simp only [Gm]
                rw [e2]
                exact fun y s hy => weakApp (X := [_, _]) hy
        simp only [Gm]
        refine Ex.share (x := "order") ?_ (by rfl)
        apply Ex.weak
        · (focus (apply Ex.cons; (case y => apply Ex.nil); (case' x => (apply Ex1.exprM; (apply EvN.m; (apply EvN.meth; exact rfl; (apply EvL.n; (apply EvL.cons; (apply Ev.name; exact rfl; exact rfl; exact rfl); apply EvL.nil; exact rfl)); exact rfl; apply Meth.append; apply OfType.list; (apply MutR.append; exact T.O; omega); exact rfl; exact rfl; exact Nat.le_of_ble_eq_true rfl; exact rfl; exact rfl; ((try delta autoParam); intros; rfl))); ((try delta autoParam); intros; rfl)))))
        · exact fun y s hy => weakApp (X := [_, _, _]) hy
  refine Ex.share (x := "texts") (Ex.share (x := "above") (Ex.share (x := "orders") ?_ (by rfl)) (by rfl)) (by rfl)
  refine Ex.weak (Ex.stop (Ex1.ret (Ev.tup (ds := [.int (c0.fmod 5), .list (sl ([0, 1, 2, 3].map (textAt c0))), .list (il (0 :: digs c1 [1, 2, 3, 4])), .list [oo c2, oo c3]]) T.toTab.O (by (apply EvL.cons; (apply Ev.bin; (apply Ev.b; (apply Ev.sub; (apply EvB.own; exact rfl; exact rfl; exact rfl); (apply Ev.b; apply Ev.cint); (apply SubR.list; decide; decide; exact rfl); exact rfl)); (apply Ev.b; apply Ev.cint); (apply BinR.mod_int; decide)); (apply EvL.cons; (apply Ev.name; exact rfl; exact rfl; exact rfl); (apply EvL.cons; (apply Ev.name; exact rfl; exact rfl; exact rfl); (apply EvL.cons; (apply Ev.name; exact rfl; exact rfl; exact rfl); apply EvL.nil; exact rfl); exact rfl); exact rfl); exact rfl)) (by show 4 ≤ sizeLine; decide))) (by simp)) (fun y s hy => by cases hy)
open PySem PySem.W PySem.Calls PyProof.Rows
structure Tab7 (B : Base) : Prop extends Tab6 B where
  laid : FnAt B "_law_laid" d_law_laid_args d_law_laid_body d_law_laid_scope
  walked : FnAt B "_law_walked" d_law_walked_args d_law_walked_body d_law_walked_scope
  done : FnAt B "_law_done" d_law_done_args d_law_done_body d_law_done_scope
  orders : FnAt B "_law_orders" d_law_orders_args d_law_orders_body d_law_orders_scope
variable {B : Base} {k : Nat}
noncomputable def nl (l : List Nat) : List D := l.map fun (n : Nat) => D.int (n : Int)
noncomputable def stD (p : Nat × Nat) : D := .tup [.int (p.1 : Int), .int (p.2 : Int)]
noncomputable def pl (l : List (Nat × Nat)) : List D := l.map stD
theorem nl_len (l : List Nat) : (nl l).length = l.length := by simp [nl]
theorem pl_len (l : List (Nat × Nat)) : (pl l).length = l.length := by simp [pl]
theorem nl_get {l : List Nat} {n : Nat} (h : n < l.length) : (nl l)[((n : Nat) : Int).toNat]? = some (.int ((l.getD n 0 : Nat) : Int)) := by
  simp [nl, h]
theorem sl_getN {l : List Str} {n : Nat} (h : n < l.length) : (sl l)[((n : Nat) : Int).toNat]? = some (.str (l.getD n "")) := by
  simp [sl, h]
theorem small63 {n : Nat} (h : n < 100) : (n : Int) < 2 ^ 63 := Int.lt_trans (Int.ofNat_lt.mpr h) (by decide)
structure AbOk (ab : List Nat) : Prop where
  len : ab.length = 5
  up : ∀ n, 0 < n → n < 5 → ab.getD n 0 < n
noncomputable def rangeN : Nat → Nat → List Nat
  | _, 0 => []
  | n, m + 1 => n :: rangeN (n + 1) m
noncomputable def laidF (ab : List Nat) (names : List Str) : Nat → Nat → List Str → List Str
  | _, 0, P => P
  | n, m + 1, P => laidF ab names (n + 1) m (P ++ [joinS (P.getD (ab.getD n 0) "") (names.getD (n - 1) "")])
noncomputable def laidS (ab : List Nat) (names : List Str) : List Str := laidF ab names 1 4 [slash]
theorem joinS_len (a b : Str) : (joinS a b).length ≤ a.length + b.length + 1 := by
  have hs : slash.length = 1 := rfl
  unfold joinS
  split
  · omega
  · split
    · rw [str_len]; omega
    · rw [str_len, str_len]; omega
theorem getD_mem' {l : List Str} {n : Nat} (h : n < l.length) : l.getD n "" ∈ l := by
  have : l.getD n "" = l[n] := by simp [h]
  rw [this]; exact List.getElem_mem _
set_option maxHeartbeats 1000000 in
theorem c_laid (T' : Tab7 B) {ab : List Nat} {names : List Str} (ok : AbOk ab) (hn : names.length = 4) (hs : ∀ x, x ∈ names → x.length ≤ 100) :
    Calls B (k + 5) "_law_laid" [.list (nl ab), .list (sl names)] (.list (sl (laidS ab names))) := by
  have T := T'.toTab2
  have big : (100000 : Nat) ≤ sizeLine := by decide
  refine Calls.of (o := .ret (.list (sl (laidS ab names)))) (xs := ["above", "names"]) (Γ' := []) T.toTab.O T'.laid (.plain (fun _ _ _ => len2 fun _ _ => rfl)) (by simp) ?_
  (focus (apply Ex.cons; (case' x => (apply Ex1.assignF; exact T.O; (apply EvF.list; exact T.O; (apply EvL.cons; apply Ev.cstr; apply EvL.nil; exact rfl); exact Nat.le_of_ble_eq_true rfl); decide; ((try delta autoParam); intros; rfl)))))
  let Gp : List Str → G := fun P => [("above", .sh (.list (nl ab))), ("names", .sh (.list (sl names))), ("paths", .own none (.list (sl P)))]
  refine Ex.cons (Γ₁ := Gp (laidS ab names)) (Ex1.for_ (ds := nl (rangeN 1 4)) (EvI.range2 T.toTab.O (T.toTab.blt _ _ (by rfl)) (by rfl) (n := 4) (EvLB.cons (Ev.cint.b) (EvLB.cons (Ev.cint.b) .nil)) (by decide) (by decide)) ?_) ?_
  · refine (?_ : ∀ (m n : Nat) (P : List Str) (h0 : 0 < n) (hnm : n + m ≤ 5) (hP : P.length = n) (hl : ∀ x, x ∈ P → x.length ≤ 200 * n), Loop B _ _ _ _ (Gp P) (nl (rangeN n m)) .next (Gp (laidF ab names n m P))) 4 1 [slash] (by decide) (by decide) rfl (by decide)
    intro m
    induction m with
    | zero => intro n P h0 hnm hP hl; exact .done
    | succ m IH =>
      intro n P h0 hnm hP hl
      have h1 : ab.getD n 0 < n := ok.up n h0 (by omega)
      have h2 : n - 1 < names.length := by omega
      have e1 : ((n : Nat) : Int) - 1 = ((n - 1 : Nat) : Int) := by omega
      have d1 := nl_get (l := ab) (n := n) (by rw [ok.len]; omega)
      have d2 := sl_getN (l := P) (n := ab.getD n 0) (by omega)
      have d3 := sl_getN (l := names) h2
      have z1 : (P.getD (ab.getD n 0) "").length ≤ 200 * n := hl _ (getD_mem' (by omega))
      have z2 : (names.getD (n - 1) "").length ≤ 100 := hs _ (getD_mem' h2)
      have z3 := joinS_len (P.getD (ab.getD n 0) "") (names.getD (n - 1) "")
      have w1 : ((n : Nat) : Int) < 2 ^ 63 := small63 (by omega)
      have w2 : ((ab.getD n 0 : Nat) : Int) < 2 ^ 63 := small63 (by omega)
      have w3 : ((n - 1 : Nat) : Int) < 2 ^ 63 := small63 (by omega)
      have w4 : (0 : Int) ≤ ((n : Nat) : Int) := Int.natCast_nonneg _
      have w5 : (0 : Int) ≤ ((ab.getD n 0 : Nat) : Int) := Int.natCast_nonneg _
      have w6 : (0 : Int) ≤ ((n - 1 : Nat) : Int) := Int.natCast_nonneg _
      have hz : (sl P).length ≤ sizeLine := by rw [sl_len]; omega
      have cj := fun kk => c_join (k := kk) T.toTab (a := P.getD (ab.getD n 0) "") (b := names.getD (n - 1) "") (by omega)
      rw [← e1] at d3 w3 w6
      apply Loop.step'
      · exact IH (n + 1) (P ++ [joinS (P.getD (ab.getD n 0) "") (names.getD (n - 1) "")]) (by omega) (by omega) (by simp [hP]) (fun x m => by
          rcases List.mem_append.mp m with q | q
          · have := hl x q; omega
          · rw [List.mem_singleton.mp q]; omega)
      · (apply Asg.name; exact T.O; decide)
      · apply Ex.weak
        · have cjk := cj (k + 1)
          (focus (apply Ex.cons; (case y => apply Ex.nil); (case' x => (apply Ex1.exprM; (apply EvN.m; (apply EvN.meth; exact rfl; (apply EvL.n; (apply EvL.cons; (focus (apply Ev.call; (case hK => exact rfl); (case y => (apply EvL.cons; (apply Ev.sub; (apply EvB.own; exact rfl; exact rfl; exact rfl); (apply Ev.b; (apply Ev.sub; (apply EvB.sh; exact rfl; exact rfl; exact rfl); (apply EvB.sh; exact rfl; exact rfl; exact rfl); (apply SubR.list; (with_reducible assumption); (with_reducible assumption); (with_reducible assumption)); exact rfl)); (apply SubR.list; (with_reducible assumption); (with_reducible assumption); (with_reducible assumption)); exact rfl); (apply EvL.cons; (apply Ev.sub; (apply EvB.sh; exact rfl; exact rfl; exact rfl); (apply Ev.b; (apply Ev.bin; (apply EvB.sh; exact rfl; exact rfl; exact rfl); (apply Ev.b; apply Ev.cint); apply BinR.sub_int)); (apply SubR.list; (with_reducible assumption); (with_reducible assumption); (with_reducible assumption)); exact rfl); apply EvL.nil; exact rfl); exact rfl)); (case O => exact T.O); (case F => exact ⟨_, _, _, T.join⟩); (case c => (with_reducible assumption)); exact rfl; exact rfl)); apply EvL.nil; exact rfl)); exact rfl; apply Meth.append; apply OfType.list; (apply MutR.append; exact T.O; (with_reducible assumption)); exact rfl; exact rfl; exact Nat.le_of_ble_eq_true rfl; exact rfl; exact rfl; ((try delta autoParam); intros; rfl))); ((try delta autoParam); intros; rfl)))))
        · have e2 : sl (P ++ [joinS (P.getD (ab.getD n 0) "") (names.getD (n - 1) "")]) = sl P ++ [.str (joinS (P.getD (ab.getD n 0) "") (names.getD (n - 1) ""))] := by simp [sl]
          show ∀ y sl, (Gp _).lookup y = some sl → _
          simp only [Gp]
          rw [e2]
          exact fun y s hy => weakApp (X := [_]) hy
  · refine Ex.share (x := "paths") ?_ (by rfl)
    refine Ex.weak (Ex.stop (Ex1.ret (Ev.name (by rfl))) (by simp)) (fun y s hy => by cases hy)
noncomputable def walkN (ab : List Nat) (a n : Nat) : Nat := if a = n then ab.getD n 0 else if a = ab.getD n 0 then n else a
noncomputable def endOf (ab order : List Nat) (a : Nat) : Nat := order.foldl (walkN ab) a
noncomputable def endsN (ab order : List Nat) : List Nat := [0, 1, 2, 3, 4].map (endOf ab order)
structure OrOk (order : List Nat) : Prop where
  len : order.length = 4
  rng : ∀ n, n ∈ order → 0 < n ∧ n < 5
theorem nl_app (a b : List Nat) : nl (a ++ b) = nl a ++ nl b := by simp [nl]
theorem eqNat {a b : Nat} (h : (((a : Nat) : Int) == ((b : Nat) : Int)) = true) : a = b := by
  have := beq_iff_eq.mp h; omega
theorem neNat {a b : Nat} (h : (((a : Nat) : Int) == ((b : Nat) : Int)) = false) : a ≠ b := by
  intro e; subst e; simp at h
set_option maxHeartbeats 1000000 in
theorem c_walked (T' : Tab7 B) {ab order : List Nat} (ok : AbOk ab) (oo : OrOk order) :
    Calls B (k + 3) "_law_walked" [.list (nl ab), .list (nl order)] (.list (nl (endsN ab order))) := by
  have T := T'.toTab2
  have big : (100000 : Nat) ≤ sizeLine := by decide
  refine Calls.of (o := .ret (.list (nl (endsN ab order)))) (xs := ["above", "order"]) (Γ' := []) T.toTab.O T'.walked (.plain (fun _ _ _ => len2 fun _ _ => rfl)) (by simp) ?_
  (focus (apply Ex.cons; (case' x => (apply Ex1.assignF; exact T.O; (apply EvF.list; exact T.O; apply EvL.nil; exact Nat.le_of_ble_eq_true rfl); decide; ((try delta autoParam); intros; rfl)))))
  let Ge : List Nat → G := fun P => [("above", .sh (.list (nl ab))), ("order", .sh (.list (nl order))), ("ends", .own none (.list (nl P)))]
  refine Ex.cons (Γ₁ := Ge (endsN ab order)) (Ex1.for_ (ds := nl [0, 1, 2, 3, 4]) (EvI.range1 T.toTab.O (T.toTab.blt _ _ (by rfl)) (by rfl) (n := 5) (EvLB.cons (Ev.cint.b) .nil) (by decide) (by decide)) ?_) ?_
  · refine (?_ : ∀ (l P : List Nat) (hz : P.length + l.length ≤ 60), Loop B _ _ _ _ (Ge P) (nl l) .next (Ge (P ++ l.map (endOf ab order)))) [0, 1, 2, 3, 4] [] (Nat.le_of_ble_eq_true rfl)
    intro l
    induction l with
    | nil => intro P hz; rw [List.map_nil, List.append_nil]; exact .done
    | cons s l IH =>
      intro P hz
      have hzo : (nl P).length + 1 ≤ sizeLine := by rw [nl_len]; simp at hz; omega
      apply Loop.step'
      · have := IH (P ++ [endOf ab order s]) (by simp at hz ⊢; omega)
        rw [List.append_assoc] at this
        exact this
      · (apply Asg.name; exact T.O; decide)
      · (focus (apply Ex.cons; (case' x => (apply Ex1.assign; (apply Ev.name; exact rfl; exact rfl; exact rfl); (apply Asg.name; exact T.O; decide); exact rfl; ((try delta autoParam); intros; rfl); ((try delta autoParam); intros; rfl)))))
        let Ga : Nat → G := fun a => [("above", .sh (.list (nl ab))), ("order", .sh (.list (nl order))), ("ends", .own none (.list (nl P))), ("start", .sh (.int (s : Nat))), ("at", .sh (.int (a : Nat)))]
        refine Ex.cons (Γ₁ := Ga (endOf ab order s)) (Ex1.for_ (ds := nl order) (EvI.list T.toTab.O (Ev.name (by rfl))) ?_) ?_
        · refine (?_ : ∀ (q : List Nat) (hq : ∀ n, n ∈ q → n ∈ order) (a : Nat), Loop B _ _ _ _ (Ga a) (nl q) .next (Ga (endOf ab q a))) order (fun _ m => m) s
          intro q
          induction q with
          | nil => intro _ a; exact .done
          | cons n q IHq =>
            intro hq a
            have hn := oo.rng n (hq n (.head _))
            have d1 := nl_get (l := ab) (n := n) (by rw [ok.len]; omega)
            have w1 : ((n : Nat) : Int) < 2 ^ 63 := small63 (by omega)
            have w4 : (0 : Int) ≤ ((n : Nat) : Int) := Int.natCast_nonneg _
            apply Loop.step'
            · exact IHq (fun x m => hq x (.tail _ m)) (walkN ab a n)
            · (apply Asg.name; exact T.O; decide)
            · refine Ex.weak (Γ' := [("above", .sh (.list (nl ab))), ("order", .sh (.list (nl order))), ("ends", .own none (.list (nl P))), ("start", .sh (.int (s : Nat))), ("at", .sh (.int (walkN ab a n : Nat))), ("k", .sh (.int (n : Nat)))]) ?_ (fun y s hy => weakApp (X := [_]) hy)
              · (focus (apply Ex.cons; (case y => apply Ex.nil); (case' x => apply Ex1.ife; (case x => (apply EvT.cmp; (apply EvB.sh; exact rfl; exact rfl; exact rfl); (apply EvB.sh; exact rfl; exact rfl; exact rfl); apply CmpR.eq_int; exact rfl)); (case' z => intro hb); (case' y => intro hb))))
                · have e : walkN ab a n = ab.getD n 0 := if_pos (eqNat hb)
                  rw [e]
                  (focus (apply Ex.cons; (case y => apply Ex.nil); (case' x => (apply Ex1.assign; (apply Ev.sub; (apply EvB.sh; exact rfl; exact rfl; exact rfl); (apply EvB.sh; exact rfl; exact rfl; exact rfl); (apply SubR.list; (with_reducible assumption); (with_reducible assumption); (with_reducible assumption)); exact rfl); (apply Asg.name; exact T.O; decide); exact rfl; ((try delta autoParam); intros; rfl); ((try delta autoParam); intros; rfl)))))
                · have h' := neNat hb
                  clear hb
                  (focus (apply Ex.cons; (case y => apply Ex.nil); (case' x => apply Ex1.ife; (case x => (apply EvT.cmp; (apply EvB.sh; exact rfl; exact rfl; exact rfl); (apply Ev.b; (apply Ev.sub; (apply EvB.sh; exact rfl; exact rfl; exact rfl); (apply EvB.sh; exact rfl; exact rfl; exact rfl); (apply SubR.list; (with_reducible assumption); (with_reducible assumption); (with_reducible assumption)); exact rfl)); apply CmpR.eq_int; exact rfl)); (case' z => intro hb); (case' y => intro hb))))
                  · have e : walkN ab a n = n := by unfold walkN; rw [if_neg h', if_pos (eqNat hb)]
                    rw [e]
                    (focus (apply Ex.cons; (case y => apply Ex.nil); (case' x => (apply Ex1.assign; (apply Ev.name; exact rfl; exact rfl; exact rfl); (apply Asg.name; exact T.O; decide); exact rfl; ((try delta autoParam); intros; rfl); ((try delta autoParam); intros; rfl)))))
                  · have e : walkN ab a n = a := by unfold walkN; rw [if_neg h', if_neg (neNat hb)]
                    rw [e]
                    exact Ex.nil
        · apply Ex.weak
          · (focus (apply Ex.cons; (case y => apply Ex.nil); (case' x => (apply Ex1.exprM; (apply EvN.m; (apply EvN.meth; exact rfl; (apply EvL.n; (apply EvL.cons; (apply Ev.name; exact rfl; exact rfl; exact rfl); apply EvL.nil; exact rfl)); exact rfl; apply Meth.append; apply OfType.list; (apply MutR.append; exact T.O; omega); exact rfl; exact rfl; exact Nat.le_of_ble_eq_true rfl; exact rfl; exact rfl; ((try delta autoParam); intros; rfl))); ((try delta autoParam); intros; rfl)))))
          · have e2 : nl (P ++ [endOf ab order s]) = nl P ++ [.int (endOf ab order s : Nat)] := by simp [nl]
            show ∀ y sl, (Ge _).lookup y = some sl → _
            simp only [Ge]
            rw [e2]
            exact fun y s hy => weakApp (X := [_, _]) hy
  · refine Ex.share (x := "ends") ?_ (by rfl)
    refine Ex.weak (Ex.stop (Ex1.ret (Ev.name (by rfl))) (by simp)) (fun y s hy => by cases hy)
open PySem PySem.W PySem.Calls PyProof.Rows
variable {B : Base} {k : Nat}
noncomputable def tg (t : List Nat) : Str := ⟨(t.map (48 + ·)).toArray⟩
noncomputable def swapN (t : List Nat) (n i : Nat) : List Nat := t.take i ++ t.getD n 0 :: ((t.take n).drop (i + 1) ++ t.getD i 0 :: t.drop (n + 1))
noncomputable abbrev swA (t : List Nat) (i : Nat) : Str := cutS (tg t) none (some ((i : Nat) : Int))
noncomputable abbrev swB (t : List Nat) (n : Nat) : Str := ⟨#[48 + t.getD n 0]⟩
noncomputable abbrev swC (t : List Nat) (n i : Nat) : Str := cutS (tg t) (some (((i : Nat) : Int) + 1)) (some ((n : Nat) : Int))
noncomputable abbrev swE (t : List Nat) (n : Nat) : Str := cutS (tg t) (some (((n : Nat) : Int) + 1)) none
theorem tg_cs (t : List Nat) : (tg t).cps.toList = t.map (48 + ·) := rfl
theorem tg_len (t : List Nat) : (tg t).length = t.length := by simp [tg, Str.length]
theorem clip_of {i d n : Nat} (h : i ≤ n) : clip (some (i : Int)) d n = i := by rw [clip_nat, Nat.min_eq_left h]
theorem app_cs (a b : Str) : (a ++ b).cps.toList = a.cps.toList ++ b.cps.toList := by
  show (a.cps ++ b.cps).toList = _
  simp
theorem swap_eq {t : List Nat} {n i : Nat} (ht : t.length = 5) (hi : i < n) (hn : n < 5) : swA t i ++ swB t n ++ swC t n i ++ swB t i ++ swE t n = tg (swapN t n i) := by
  refine Str.cps_inj ?_
  have e1 : (((i : Nat) : Int) + 1) = ((i + 1 : Nat) : Int) := rfl
  have e2 : (((n : Nat) : Int) + 1) = ((n + 1 : Nat) : Int) := rfl
  have hl : (tg t).cps.toList.length = 5 := by rw [tg_cs, List.length_map, ht]
  simp only [app_cs, swA, swB, swC, swE, cutS, e1, e2]
  simp only [cut, hl]
  rw [clip_of (by omega), clip_of (by omega), clip_of (by omega), clip_of (by omega)]
  simp only [clip, tg_cs, swapN, List.map_append, List.map_cons, List.map_take, List.map_drop]
  simp [List.take_of_length_le, ht]
theorem swap_len {t : List Nat} {n i : Nat} (ht : t.length = 5) (hi : i < n) (hn : n < 5) : (swapN t n i).length = 5 := by
  simp [swapN, ht]; omega
theorem char_at {t : List Nat} {n : Nat} (h : n < t.length) : (tg t).cps[((n : Nat) : Int).toNat]? = some (48 + t.getD n 0) := by
  simp [tg, h]
theorem cutS_len5 {t : List Nat} (ht : t.length = 5) (a b : Option Int) : (cutS (tg t) a b).length ≤ 5 := by
  have := cutS_le (tg t) a b
  rw [tg_len, ht] at this; exact this
structure SwOk (t : List Nat) (n i : Nat) : Prop where
  z0 : (tg t).length ≤ sizeLine
  z1 : (swA t i).length + (swB t n).length ≤ sizeLine
  z2 : (swA t i ++ swB t n).length + (swC t n i).length ≤ sizeLine
  z3 : (swA t i ++ swB t n ++ swC t n i).length + (swB t i).length ≤ sizeLine
  z4 : (swA t i ++ swB t n ++ swC t n i ++ swB t i).length + (swE t n).length ≤ sizeLine
  c1 : (tg t).cps[((n : Nat) : Int).toNat]? = some (48 + t.getD n 0)
  c2 : (tg t).cps[((i : Nat) : Int).toNat]? = some (48 + t.getD i 0)
  n0 : (0 : Int) ≤ ((n : Nat) : Int)
  i0 : (0 : Int) ≤ ((i : Nat) : Int)
  n1 : ((n : Nat) : Int) < 2 ^ 63
  i1 : ((i : Nat) : Int) < 2 ^ 63
theorem swOk {t : List Nat} {n i : Nat} (ht : t.length = 5) (hi : i < n) (hn : n < 5) : SwOk t n i := by
  have big : (100000 : Nat) ≤ sizeLine := by decide
  have a : (swA t i).length ≤ 5 := cutS_len5 ht none (some ((i : Nat) : Int))
  have b : (swB t n).length = 1 := rfl
  have c : (swC t n i).length ≤ 5 := cutS_len5 ht (some (((i : Nat) : Int) + 1)) (some ((n : Nat) : Int))
  have d : (swB t i).length = 1 := rfl
  have e : (swE t n).length ≤ 5 := cutS_len5 ht (some (((n : Nat) : Int) + 1)) none
  refine ⟨by rw [tg_len, ht]; omega, ?_, ?_, ?_, ?_, char_at (by omega), char_at (by omega), Int.natCast_nonneg _, Int.natCast_nonneg _, small63 (by omega), small63 (by omega)⟩ <;> (try simp only [str_len]) <;> omega
noncomputable def doneN (t : List Nat) (order : List (Nat × Nat)) : List Nat := order.foldl (fun t p => swapN t p.1 p.2) t
structure StOk (order : List (Nat × Nat)) : Prop where
  rng : ∀ p, p ∈ order → p.2 < p.1 ∧ p.1 < 5
set_option maxHeartbeats 1000000 in
theorem c_done (T' : Tab7 B) {t : List Nat} {order : List (Nat × Nat)} (ht : t.length = 5) (so : StOk order) :
    Calls B (k + 3) "_law_done" [.str (tg t), .list (pl order)] (.str (tg (doneN t order))) := by
  have T := T'.toTab2
  refine Calls.of (o := .ret (.str (tg (doneN t order)))) (xs := ["tags", "order"]) (Γ' := []) T.toTab.O T'.done (.plain (fun _ _ _ => len2 fun _ _ => rfl)) (by simp) ?_
  let Gt : List Nat → G := fun t => [("tags", .sh (.str (tg t))), ("order", .sh (.list (pl order)))]
  refine Ex.cons (Γ₁ := Gt (doneN t order)) (Ex1.for_ (ds := pl order) (EvI.list T.toTab.O (Ev.name (by rfl))) ?_) ?_
  · refine (?_ : ∀ (q : List (Nat × Nat)) (hq : ∀ p, p ∈ q → p ∈ order) (t : List Nat) (ht : t.length = 5), Loop B _ _ _ _ (Gt t) (pl q) .next (Gt (doneN t q))) order (fun _ m => m) t ht
    intro q
    induction q with
    | nil => intro _ t ht; exact .done
    | cons p q IH =>
      intro hq t ht
      have hp := so.rng p (hq p (.head _))
      obtain ⟨n, i⟩ := p
      have ok := swOk ht hp.1 hp.2
      obtain ⟨z0, z1, z2, z3, z4, c1, c2, n0, i0, n1, i1⟩ := ok
      apply Loop.step'
      · exact IH (fun x m => hq x (.tail _ m)) (swapN t n i) (swap_len ht hp.1 hp.2)
      · simp only [stD]
        (apply Asg.tup; exact T.O; (apply AsgL.cons; (apply Asg.name; exact T.O; decide); (apply AsgL.cons; (apply Asg.name; exact T.O; decide); apply AsgL.nil; exact rfl); exact rfl); exact rfl; exact rfl)
      · apply Ex.weak
        · (focus (apply Ex.cons; (case y => apply Ex.nil); (case' x => (apply Ex1.assign; (apply Ev.bin; (apply Ev.b; (apply Ev.bin; (apply Ev.b; (apply Ev.bin; (apply Ev.b; (apply Ev.bin; (apply Ev.b; (apply Ev.slice; exact T.O; (apply EvB.sh; exact rfl; exact rfl; exact rfl); apply EvP.none; (apply EvP.some; (apply Ev.name; exact rfl; exact rfl; exact rfl)); (with_reducible assumption))); (apply Ev.b; (apply Ev.sub; (apply EvB.sh; exact rfl; exact rfl; exact rfl); (apply EvB.sh; exact rfl; exact rfl; exact rfl); (apply SubR.str; (with_reducible assumption); (with_reducible assumption); (with_reducible assumption)); exact rfl)); (apply BinR.add_str; (with_reducible assumption)))); (apply Ev.b; (apply Ev.slice; exact T.O; (apply EvB.sh; exact rfl; exact rfl; exact rfl); (apply EvP.some; (apply Ev.bin; (apply EvB.sh; exact rfl; exact rfl; exact rfl); (apply Ev.b; apply Ev.cint); apply BinR.add_int)); (apply EvP.some; (apply Ev.name; exact rfl; exact rfl; exact rfl)); (with_reducible assumption))); (apply BinR.add_str; (with_reducible assumption)))); (apply Ev.b; (apply Ev.sub; (apply EvB.sh; exact rfl; exact rfl; exact rfl); (apply EvB.sh; exact rfl; exact rfl; exact rfl); (apply SubR.str; (with_reducible assumption); (with_reducible assumption); (with_reducible assumption)); exact rfl)); (apply BinR.add_str; (with_reducible assumption)))); (apply Ev.b; (apply Ev.slice; exact T.O; (apply EvB.sh; exact rfl; exact rfl; exact rfl); (apply EvP.some; (apply Ev.bin; (apply EvB.sh; exact rfl; exact rfl; exact rfl); (apply Ev.b; apply Ev.cint); apply BinR.add_int)); apply EvP.none; (with_reducible assumption))); (apply BinR.add_str; (with_reducible assumption))); (apply Asg.name; exact T.O; decide); exact rfl; ((try delta autoParam); intros; rfl); ((try delta autoParam); intros; rfl)))))
        · show ∀ y sl, (Gt _).lookup y = some sl → _
          simp only [Gt]
          rw [← swap_eq ht hp.1 hp.2]
          exact fun y s hy => weakApp (X := [_, _]) hy
  · refine Ex.weak (Ex.stop (Ex1.ret (Ev.name (by rfl))) (by simp)) (fun y s hy => by cases hy)
noncomputable def facN (o n : Nat) : Nat := (rangeN 0 n).foldl (fun o k => o * (k + 1)) o
noncomputable def ordN (l : List Nat) : Nat := l.foldl facN 1
theorem runI_nl : ∀ (m n : Nat), runI ((n : Nat) : Int) m = nl (rangeN n m)
  | 0, n => rfl
  | m + 1, n => by
    have := runI_nl m (n + 1)
    show D.int n :: runI (((n : Nat) : Int) + 1) m = D.int n :: nl (rangeN (n + 1) m)
    rw [← this]; rfl
theorem range_lt : ∀ {m n x : Nat}, x ∈ rangeN n m → n ≤ x ∧ x < n + m
  | 0, n, x, h => by cases h
  | m + 1, n, x, h => by
    rcases List.mem_cons.mp h with rfl | h
    · omega
    · have := range_lt h; omega
theorem mulOk5 (a : Int) : ∀ n : Nat, n < 4 → IntMulOk a (((n : Nat) : Int) + 1)
  | 0, _ => IntMulOk.of_right (by decide +kernel)
  | 1, _ => IntMulOk.of_right (by decide +kernel)
  | 2, _ => IntMulOk.of_right (by decide +kernel)
  | 3, _ => IntMulOk.of_right (by decide +kernel)
theorem small5 : ∀ n : Nat, n < 5 → Builtin.Range.small 0 ((n : Nat) : Int) 1 = true
  | 0, _ => by decide
  | 1, _ => by decide
  | 2, _ => by decide
  | 3, _ => by decide
  | 4, _ => by decide
set_option maxHeartbeats 1000000 in
theorem c_orders (T' : Tab7 B) {l : List Nat} (hl : ∀ n, n ∈ l → n < 5) :
    Calls B (k + 3) "_law_orders" [.list (nl l)] (.int (ordN l : Nat)) := by
  have T := T'.toTab2
  refine Calls.of (o := .ret (.int (ordN l : Nat))) (xs := ["numbers"]) (Γ' := []) T.toTab.O T'.orders (.plain (fun _ _ _ => len1 fun _ => rfl)) (by simp) ?_
  (focus (apply Ex.cons; (case' x => (apply Ex1.assign; apply Ev.cint; (apply Asg.name; exact T.O; decide); exact rfl; ((try delta autoParam); intros; rfl); ((try delta autoParam); intros; rfl)))))
  let Go : Nat → G := fun o => [("numbers", .sh (.list (nl l))), ("orders", .sh (.int (o : Nat)))]
  refine Ex.cons (Γ₁ := Go (ordN l)) (Ex1.for_ (ds := nl l) (EvI.list T.toTab.O (Ev.name (by rfl))) ?_) ?_
  · refine (?_ : ∀ (q : List Nat) (hq : ∀ n, n ∈ q → n ∈ l) (o : Nat), Loop B _ _ _ _ (Go o) (nl q) .next (Go (q.foldl facN o))) l (fun _ m => m) 1
    intro q
    induction q with
    | nil => intro _ o; exact .done
    | cons n q IH =>
      intro hq o
      have hn := hl n (hq n (.head _))
      apply Loop.step'
      · exact IH (fun x m => hq x (.tail _ m)) (facN o n)
      · (apply Asg.name; exact T.O; decide)
      · let Gi : Nat → G := fun o => [("numbers", .sh (.list (nl l))), ("orders", .sh (.int (o : Nat))), ("number", .sh (.int (n : Nat)))]
        have e : runI 0 n = nl (rangeN 0 n) := runI_nl n 0
        refine Ex.cons (Γ₁ := Go (facN o n)) (Ex1.weak (Γ' := Gi (facN o n)) (Ex1.for_ (ds := nl (rangeN 0 n)) (e ▸ EvI.range1 T.toTab.O (T.toTab.blt _ _ (by rfl)) (by rfl) (n := n) (EvLB.cons (EvB.sh (by rfl)) .nil) (by omega) (small5 n hn)) ?_) (fun y s hy => weakApp (X := [_]) hy)) .nil
        refine (?_ : ∀ (r : List Nat) (hr : ∀ x, x ∈ r → x < 4) (o : Nat), Loop B _ _ _ _ (Gi o) (nl r) .next (Gi (r.foldl (fun o k => o * (k + 1)) o))) (rangeN 0 n) (fun x m => by have := range_lt m; omega) o
        intro r
        induction r with
        | nil => intro _ o; exact .done
        | cons x r IHr =>
          intro hr o
          have hx := hr x (.head _)
          have hm := mulOk5 ((o : Nat) : Int) x hx
          apply Loop.step'
          · exact IHr (fun y m => hr y (.tail _ m)) (o * (x + 1))
          · (apply Asg.name; exact T.O; decide)
          · apply Ex.weak
            · (focus (apply Ex.cons; (case y => apply Ex.nil); (case' x => (apply Ex1.assign; (apply Ev.bin; (apply EvB.sh; exact rfl; exact rfl; exact rfl); (apply Ev.b; (apply Ev.bin; (apply EvB.sh; exact rfl; exact rfl; exact rfl); (apply Ev.b; apply Ev.cint); apply BinR.add_int)); (apply BinR.mul_int; (with_reducible assumption))); (apply Asg.name; exact T.O; decide); exact rfl; ((try delta autoParam); intros; rfl); ((try delta autoParam); intros; rfl)))))
            · exact fun y s hy => weakApp (X := [_]) hy
  · refine Ex.weak (Ex.stop (Ex1.ret (Ev.name (by rfl))) (by simp)) (fun y s hy => by cases hy)
open PySem PySem.W PySem.Calls PyProof.Rows
structure Tab8 (B : Base) : Prop extends Tab7 B where
  all : FnAt B "_law_all" d_law_all_args d_law_all_body d_law_all_scope
  round : FnAt B "_law_round" d_law_round_args d_law_round_body d_law_round_scope
variable {B : Base} {k : Nat}
noncomputable def allN : Nat → List Nat → List (Nat × Nat) → List (List Nat)
  | 0, t, _ => [t]
  | m + 1, t, left => left.flatMap fun p => allN m (swapN t p.1 p.2) (left.filter fun q => decide (q ≠ p))
theorem deps_pl : ∀ l : List (Nat × Nat), deps (pl l) ≤ 1
  | [] => by decide
  | x :: l => by
    show max (max 0 (max 0 0) + 1) (deps (pl l)) ≤ 1
    have := deps_pl l
    omega
theorem sims_nil (l : List D) : sims l [] = true := by cases l <;> rfl
theorem pl_app (a b : List (Nat × Nat)) : pl (a ++ b) = pl a ++ pl b := by simp [pl]
theorem filter_one {l : List (Nat × Nat)} {p : Nat × Nat} (hn : l.Nodup) (m : p ∈ l) : (l.filter fun q => decide (q ≠ p)).length + 1 = l.length := by
  induction l with
  | nil => cases m
  | cons x l IH =>
    have hx := List.nodup_cons.mp hn
    by_cases e : x = p
    · subst e
      have : (l.filter fun q => decide (q ≠ x)) = l := List.filter_eq_self.mpr fun y my => by
        rw [decide_eq_true_iff]; rintro rfl; exact hx.1 my
      rw [List.filter_cons_of_neg (by simp), this]; rfl
    · have hm : p ∈ l := (List.mem_cons.mp m).resolve_left (Ne.symm e)
      rw [List.filter_cons_of_pos (by simpa using e)]
      have := IH hx.2 hm
      simp only [List.length_cons]; omega
theorem allN_len : ∀ (m : Nat) (t : List Nat) (left : List (Nat × Nat)), left.length ≤ 5 → (allN m t left).length ≤ 5 ^ m
  | 0, t, left, _ => by simp [allN]
  | m + 1, t, left, h => by
    have key : ∀ (q : List (Nat × Nat)), (q.flatMap fun p => allN m (swapN t p.1 p.2) (left.filter fun q => decide (q ≠ p))).length ≤ q.length * 5 ^ m := by
      intro q
      induction q with
      | nil => simp
      | cons p q IH =>
        have := allN_len m (swapN t p.1 p.2) (left.filter fun q => decide (q ≠ p)) (Nat.le_trans (List.length_filter_le _ _) h)
        rw [List.flatMap_cons, List.length_append, List.length_cons, Nat.add_mul]
        omega
    refine Nat.le_trans (key left) ?_
    rw [Nat.pow_succ, Nat.mul_comm]
    exact Nat.mul_le_mul_left _ h
theorem ne_st {p q : Nat × Nat} {kk : Nat} : CmpR B kk .NotEq (stD q) (stD p) (decide (q ≠ p)) := by
  refine CmpR.ne_tup rfl ?_ (by show (0 : Nat) < 50; decide)
  rw [decide_eq_true_iff]
  refine not_congr ⟨fun e => by rw [e], fun e => ?_⟩
  injection e with e1 e2
  injection e2 with e2 _
  injection e1 with e1
  injection e2 with e2
  exact Prod.ext (Int.ofNat.inj e1) (Int.ofNat.inj e2)
set_option maxHeartbeats 2000000 in
theorem c_all (T' : Tab8 B) : ∀ (m : Nat) (t : List Nat) (left : List (Nat × Nat)), m ≤ 4 → t.length = 5 → left.length = m → left.Nodup → StOk left →
    Calls B (k + m + 3) "_law_all" [.str (tg t), .list (pl left)] (.list (sl ((allN m t left).map tg))) := by
  have T := T'.toTab2
  have big : (100000 : Nat) ≤ sizeLine := by decide
  intro m
  induction m with
  | zero =>
    intro t left hm ht hl hn so
    obtain rfl : left = [] := List.length_eq_zero_iff.mp hl
    refine Calls.of (o := .ret (.list (sl ((allN 0 t []).map tg)))) (xs := ["tags", "left"]) (Γ' := []) T.toTab.O T'.all (.plain (fun _ _ _ => len2 fun _ _ => rfl)) (by simp) ?_
    refine Ex.stop (Ex1.ife (c := true) (EvT.cmp (d₁ := .list []) (d₂ := .list []) (EvB.sh (by rfl)) (by (apply Ev.b; (apply EvF.ev; (apply EvF.list; exact T.O; apply EvL.nil; exact Nat.le_of_ble_eq_true rfl)))) (CmpR.eq_list rfl (by simp) (by decide))) (fun _ => ?_) (fun hb => nomatch hb)) (by simp)
    refine Ex.weak (Ex.stop (Ex1.ret (EvF.ev (EvF.list T.toTab.O (.cons (d := .str (tg t)) (Ev.name (by rfl)) .nil) (by show 1 ≤ sizeLine; decide)))) (by simp)) (fun y s hy => by cases hy)
  | succ m IH =>
    intro t left hm ht hl hn so
    refine Calls.of (o := .ret (.list (sl ((allN (m + 1) t left).map tg)))) (xs := ["tags", "left"]) (Γ' := []) T.toTab.O T'.all (.plain (fun _ _ _ => len2 fun _ _ => rfl)) (by simp) ?_
    let Gf : List (List Nat) → G := fun P => [("tags", .sh (.str (tg t))), ("left", .sh (.list (pl left))), ("found", .own none (.list (sl (P.map tg))))]
    refine Ex.cons (Γ₁ := [("tags", .sh (.str (tg t))), ("left", .sh (.list (pl left)))]) (Ex1.ife (c := false) (EvT.cmp (d₁ := .list (pl left)) (d₂ := .list []) (EvB.sh (by rfl)) (by (apply Ev.b; (apply EvF.ev; (apply EvF.list; exact T.O; apply EvL.nil; exact Nat.le_of_ble_eq_true rfl)))) (CmpR.eq_list (sims_nil _) (by
      cases left with
      | nil => simp at hl
      | cons => simp [pl]) (Nat.lt_of_le_of_lt (deps_pl _) (by decide)))) (fun hb => nomatch hb) (fun _ => .nil)) ?_
    (focus (apply Ex.cons; (case' x => (apply Ex1.assignF; exact T.O; (apply EvF.list; exact T.O; apply EvL.nil; exact Nat.le_of_ble_eq_true rfl); decide; ((try delta autoParam); intros; rfl)))))
    refine Ex.cons (Γ₁ := Gf (allN (m + 1) t left)) (Ex1.for_ (ds := pl left) (EvI.list T.toTab.O (Ev.name (by rfl))) ?_) ?_
    · refine (?_ : ∀ (q : List (Nat × Nat)) (hq : ∀ p, p ∈ q → p ∈ left) (P : List (List Nat)) (hP : P.length + q.length * 5 ^ m ≤ 5000), Loop B _ _ _ _ (Gf P) (pl q) .next (Gf (P ++ q.flatMap fun p => allN m (swapN t p.1 p.2) (left.filter fun q => decide (q ≠ p))))) left (fun _ m => m) [] (by
        have : 5 ^ m ≤ 5 ^ 3 := Nat.pow_le_pow_right (by decide) (by omega)
        have h2 : left.length * 5 ^ m ≤ 5 * 5 ^ 3 := Nat.mul_le_mul (by omega) this
        simp only [List.length_nil, Nat.zero_add]
        exact Nat.le_trans h2 (by decide))
      intro q
      induction q with
      | nil => intro _ P hP; rw [List.flatMap_nil, List.append_nil]; exact .done
      | cons p q IHq =>
        intro hq P hP
        have hp := so.rng p (hq p (.head _))
        have hf : (left.filter fun q => decide (q ≠ p)).length = m := by have := filter_one hn (hq p (.head _)); omega
        have hlen := allN_len m (swapN t p.1 p.2) (left.filter fun q => decide (q ≠ p)) (by omega)
        have ca := IH (swapN t p.1 p.2) (left.filter fun q => decide (q ≠ p)) (by omega) (swap_len ht hp.1 hp.2) hf (hn.filter _) ⟨fun x mx => so.rng x (List.mem_filter.mp mx |>.1)⟩
        obtain ⟨z0, z1, z2, z3, z4, c1, c2, n0, i0, n1, i1⟩ := swOk ht hp.1 hp.2
        rw [List.length_cons, Nat.add_mul, Nat.one_mul] at hP
        have hz : (sl (P.map tg)).length + (sl ((allN m (swapN t p.1 p.2) (left.filter fun q => decide (q ≠ p))).map tg)).length ≤ sizeLine := by
          rw [sl_len, sl_len, List.length_map, List.length_map]; omega
        have hzf : (pl (left.filter fun q => decide (q ≠ p))).length ≤ sizeLine := by rw [pl_len, hf]; omega
        apply Loop.step'
        · have := IHq (fun x m => hq x (.tail _ m)) (P ++ allN m (swapN t p.1 p.2) (left.filter fun q => decide (q ≠ p))) (by rw [List.length_append]; omega)
          rw [List.append_assoc] at this
          rw [List.flatMap_cons]
          exact this
        · (apply Asg.name; exact T.O; decide)
        · refine Ex.cons (Γ₁ := [("tags", .sh (.str (tg t))), ("left", .sh (.list (pl left))), ("found", .own none (.list (sl (P.map tg)))), ("step", .sh (stD p)), ("k", .sh (.int (p.1 : Nat))), ("i", .sh (.int (p.2 : Nat)))]) ?_ ?_
          · simp only [stD]
            (apply Ex1.assign; (apply Ev.name; exact rfl; exact rfl; exact rfl); (apply Asg.tup; exact T.O; (apply AsgL.cons; (apply Asg.name; exact T.O; decide); (apply AsgL.cons; (apply Asg.name; exact T.O; decide); apply AsgL.nil; exact rfl); exact rfl); exact rfl; exact rfl); exact rfl; ((try delta autoParam); intros; rfl); ((try delta autoParam); intros; rfl))
          rw [← swap_eq ht hp.1 hp.2] at ca
          apply Ex.weak
          · refine Ex.cons (Ex1.augList (l₂ := sl ((allN m (swapN t p.1 p.2) (left.filter fun q => decide (q ≠ p))).map tg)) T.toTab.O (by rfl) (Ev.call T.toTab.O (by rfl) ca ⟨_, _, _, T'.all⟩ (.cons (by (apply Ev.bin; (apply Ev.b; (apply Ev.bin; (apply Ev.b; (apply Ev.bin; (apply Ev.b; (apply Ev.bin; (apply Ev.b; (apply Ev.slice; exact T.O; (apply EvB.sh; exact rfl; exact rfl; exact rfl); apply EvP.none; (apply EvP.some; (apply Ev.name; exact rfl; exact rfl; exact rfl)); (with_reducible assumption))); (apply Ev.b; (apply Ev.sub; (apply EvB.sh; exact rfl; exact rfl; exact rfl); (apply EvB.sh; exact rfl; exact rfl; exact rfl); (apply SubR.str; (with_reducible assumption); (with_reducible assumption); (with_reducible assumption)); exact rfl)); (apply BinR.add_str; (with_reducible assumption)))); (apply Ev.b; (apply Ev.slice; exact T.O; (apply EvB.sh; exact rfl; exact rfl; exact rfl); (apply EvP.some; (apply Ev.bin; (apply EvB.sh; exact rfl; exact rfl; exact rfl); (apply Ev.b; apply Ev.cint); apply BinR.add_int)); (apply EvP.some; (apply Ev.name; exact rfl; exact rfl; exact rfl)); (with_reducible assumption))); (apply BinR.add_str; (with_reducible assumption)))); (apply Ev.b; (apply Ev.sub; (apply EvB.sh; exact rfl; exact rfl; exact rfl); (apply EvB.sh; exact rfl; exact rfl; exact rfl); (apply SubR.str; (with_reducible assumption); (with_reducible assumption); (with_reducible assumption)); exact rfl)); (apply BinR.add_str; (with_reducible assumption)))); (apply Ev.b; (apply Ev.slice; exact T.O; (apply EvB.sh; exact rfl; exact rfl; exact rfl); (apply EvP.some; (apply Ev.bin; (apply EvB.sh; exact rfl; exact rfl; exact rfl); (apply Ev.b; apply Ev.cint); apply BinR.add_int)); apply EvP.none; (with_reducible assumption))); (apply BinR.add_str; (with_reducible assumption)))) (.cons (EvF.ev (EvF.comp (cx := false) (ds := pl left) T.toTab.O (EvIB.list T.toTab.O (EvB.sh (by rfl))) (by exact ScOk.of (by rfl) (by rfl) (by rfl) (by intros; rfl) (by intros; rfl)) (by rfl) ?_ hzf (by intros; rfl))) .nil))) (.inl (by rfl)) hz) .nil
            refine CompR.of stD (fun q => decide (q ≠ p)) stD left (fun q mq => ?_) (fun q mq _ => Ev.name (by rfl))
            exact EvIfs.one (EvT.cmp (EvB.sh (by rfl)) (Ev.b (Ev.name (by rfl))) ne_st)
          · show ∀ y sl, (Gf _).lookup y = some sl → _
            simp only [Gf]
            rw [List.map_append, sl_app]
            exact fun y s hy => weakApp (X := [_, _, _]) hy
    · refine Ex.share (x := "found") ?_ (by rfl)
      refine Ex.weak (Ex.stop (Ex1.ret (Ev.name (by rfl))) (by simp)) (fun y s hy => by cases hy)
noncomputable def seenP (t : List Nat) : Nat → List Nat → Nat → List Nat × Nat
  | 0, P, x => (P, x)
  | m + 1, P, x => seenP t m (P ++ [x]) (t.getD x 0)
noncomputable def seenL (t : List Nat) : List Int := ((seenP t 4 [] 0).1 ++ [(seenP t 4 [] 0).2]).map Int.ofNat
structure RoundOk (t : List Nat) : Prop where
  len : t.length = 5
  rng : ∀ x, x ∈ t → x < 5
  fm : (firstMet (fun i => (seenL t).getD i 0) (seenL t).length).length = 5
  sl : (seenL t).length < 4000
  fin : t.getD (seenP t 4 [] 0).2 0 = 0
theorem getD5 {t : List Nat} (h : ∀ x, x ∈ t → x < 5) (n : Nat) : t.getD n 0 < 5 := by
  by_cases hn : n < t.length
  · have : t.getD n 0 = t[n] := by simp [hn]
    rw [this]; exact h _ (List.getElem_mem _)
  · rw [List.getD_eq_getElem?_getD, List.getElem?_eq_none (by omega)]; decide
theorem seenP_lt {t : List Nat} (h : ∀ x, x ∈ t → x < 5) : ∀ (m : Nat) (P : List Nat) (x : Nat), x < 5 → (seenP t m P x).2 < 5
  | 0, P, x, hx => hx
  | m + 1, P, x, hx => seenP_lt h m _ _ (getD5 h _)
set_option maxHeartbeats 1000000 in
theorem c_round (T' : Tab8 B) {t : List Nat} (ro : RoundOk t) : Calls B (k + 3) "_law_round" [.str (tg t)] (.bool true) := by
  have T := T'.toTab2
  have big : (100000 : Nat) ≤ sizeLine := by decide
  refine Calls.of (o := .ret (.bool true)) (xs := ["tags"]) (Γ' := []) T.toTab.O T'.round (.plain (fun _ _ _ => len1 fun _ => rfl)) (by simp) ?_
  (focus (apply Ex.cons; (case' x => (apply Ex1.assignF; exact T.O; (apply EvF.list; exact T.O; (apply EvL.cons; apply Ev.cint; apply EvL.nil; exact rfl); exact Nat.le_of_ble_eq_true rfl); decide; ((try delta autoParam); intros; rfl)))))
  let Gs : List Nat → Nat → G := fun P x => [("tags", .sh (.str (tg t))), ("seen", .own none (.list (nl P ++ [.int (x : Nat)])))]
  refine Ex.cons (Γ₁ := Gs (seenP t 4 [] 0).1 (seenP t 4 [] 0).2) (Ex1.for_ (ds := nl [0, 1, 2, 3]) (EvI.range1 T.toTab.O (T.toTab.blt _ _ (by rfl)) (by rfl) (n := 4) (EvLB.cons (Ev.cint.b) .nil) (by decide) (by decide)) ?_) ?_
  · refine (?_ : ∀ (r P : List Nat) (x : Nat) (hx : x < 5) (hP : P.length + r.length ≤ 60), Loop B _ _ _ _ (Gs P x) (nl r) .next (Gs (seenP t r.length P x).1 (seenP t r.length P x).2)) [0, 1, 2, 3] [] 0 (by decide) (Nat.le_of_ble_eq_true rfl)
    intro r
    induction r with
    | nil => intro P x hx hP; exact .done
    | cons y r IH =>
      intro P x hx hP
      have c1 := char_at (t := t) (n := x) (by rw [ro.len]; exact hx)
      have h5 := getD5 ro.rng x
      have w0 : (0 : Int) ≤ ((x : Nat) : Int) := Int.natCast_nonneg _
      have w1 : ((x : Nat) : Int) < 2 ^ 63 := small63 (by omega)
      have hz : (nl P ++ [D.int ((x : Nat) : Int)]).length + 1 ≤ sizeLine := by
        rw [List.length_append, nl_len]; simp at hP ⊢; omega
      apply Loop.step'
      · exact IH (P ++ [x]) (t.getD x 0) h5 (by simp at hP ⊢; omega)
      · (apply Asg.name; exact T.O; decide)
      · apply Ex.weak
        · (focus (apply Ex.cons; (case y => apply Ex.nil); (case' x => (apply Ex1.exprM; (apply EvN.m; (apply EvN.meth; exact rfl; (apply EvL.n; (apply EvL.cons; (apply Ev.blt; exact T.O; exact T.blt _ _ (by rfl); exact rfl; (apply EvLB.cons; (apply Ev.b; (apply Ev.sub; (apply EvB.sh; exact rfl; exact rfl; exact rfl); (apply Ev.b; (apply Ev.sub; (apply EvB.own; exact rfl; exact rfl; exact rfl); (apply Ev.b; apply Ev.negc); apply SubR.last; exact rfl)); (apply SubR.str; (with_reducible assumption); (with_reducible assumption); (with_reducible assumption)); exact rfl)); apply EvLB.nil; exact rfl); (apply BltR.intDig; (with_reducible assumption)); exact rfl; exact rfl; exact rfl); apply EvL.nil; exact rfl)); exact rfl; apply Meth.append; apply OfType.list; (apply MutR.append; exact T.O; omega); exact rfl; exact rfl; exact Nat.le_of_ble_eq_true rfl; exact rfl; exact rfl; ((try delta autoParam); intros; rfl))); ((try delta autoParam); intros; rfl)))))
        · show ∀ y sl, (Gs _ _).lookup y = some sl → _
          simp only [Gs]
          rw [nl_app]
          exact fun y s hy => weakApp (X := [_]) hy
  · have hx := seenP_lt ro.rng 4 [] 0 (by decide)
    have c1 := char_at (t := t) (n := (seenP t 4 [] 0).2) (by rw [ro.len]; exact hx)
    have w0 : (0 : Int) ≤ (((seenP t 4 [] 0).2 : Nat) : Int) := Int.natCast_nonneg _
    have w1 : (((seenP t 4 [] 0).2 : Nat) : Int) < 2 ^ 63 := small63 (by omega)
    have fm := ro.fm
    have sz := ro.sl
    have e : nl (seenP t 4 [] 0).1 ++ [.int ((seenP t 4 [] 0).2 : Nat)] = il (seenL t) := by simp [nl, il, seenL]
    have fin := ro.fin
    refine Ex.weak (Ex.stop (Ex1.ret (d := .bool true) (Ev.and_cons (a := true) (b := true) (Ev.cmp (d₁ := .int 5) ?_ (Ev.b Ev.cint) CmpR.eq_int) fun _ => Ev.and_nil (Ev.cmp (d₁ := .str ⟨#[48 + t.getD (seenP t 4 [] 0).2 0]⟩) ?_ (Ev.b Ev.cstr) (by rw [fin]; exact CmpR.eq_str (a := "0") (b := "0"))))) (by simp)) (fun y s hy => by cases hy)
    · exact Ev.b (Ev.lenSet (n := 5) T.toTab.O (T.toTab.blt _ _ (by rfl)) (T.toTab.blt _ _ (by rfl)) (by rfl) (by rfl) (EvB.own (by simp only [Gs]; rw [e]; rfl)) sz fm)
    · (apply Ev.b; (apply Ev.sub; (apply EvB.sh; exact rfl; exact rfl; exact rfl); (apply Ev.b; (apply Ev.sub; (apply EvB.own; exact rfl; exact rfl; exact rfl); (apply Ev.b; apply Ev.negc); apply SubR.last; exact rfl)); (apply SubR.str; (with_reducible assumption); (with_reducible assumption); (with_reducible assumption)); exact rfl))
open PySem PySem.W PySem.Calls PyProof.Rows
structure Tab9 (B : Base) : Prop extends Tab8 B where
  read : FnAt B "_law_read" d_law_read_args d_law_read_body d_law_read_scope
variable {B : Base} {k : Nat}
noncomputable def pAt (P : List Str) (n : Nat) : Str := P.getD n ""
noncomputable def heldS (P : List Str) (p : Str) : List Str := sortS (P.filter fun q => commS [p, q] == p)
noncomputable def movedS (P : List Str) (W : List Nat) (held : List Str) : List Str := sortS (([0, 1, 2, 3, 4].filter fun n => decide (pAt P n ∈ held)).map fun n => pAt P (W.getD n 0))
noncomputable def laterOf (rest : List (Nat × Nat)) (n : Nat) : List (Nat × Nat) := rest.filter fun q => decide (n = q.1 ∨ n = q.2)
noncomputable def bey (P : List Str) (rest : List (Nat × Nat)) (n : Nat) (one : Str) : Bool :=
  match laterOf rest n with
  | [] => one == pAt P n
  | q :: _ => if q.2 = n then commS [pAt P q.1, one] == pAt P q.1 else !(commS [pAt P n, one] == pAt P n)
structure ReadAt (P : List Str) (W : List Nat) (p : Nat × Nat) (rest : List (Nat × Nat)) (x y : Str) : Prop where
  hr : Rising (heldS P (pAt P p.1))
  mr : Rising (movedS P W (heldS P (pAt P p.1)))
  sd : sldS (heldS P (pAt P p.1)) (movedS P W (heldS P (pAt P p.1))) = ([x], [y])
  xm : x ∈ P
  ym : y ∈ P
  bx : bey P rest p.1 x = true
  by_ : bey P rest p.2 y = true
structure ReadOk (P : List Str) (W : List Nat) (order : List (Nat × Nat)) : Prop where
  len : P.length = 5
  wlen : W.length = 5
  wrng : ∀ n, n ∈ W → n < 5
  so : StOk order
  olen : order.length ≤ 10
  cp : ∀ a b, a ∈ P → b ∈ P → CpOk [a, b]
  at_ : ∀ pre p rest, order = pre ++ p :: rest → ∃ x y, ReadAt P W p rest x y
theorem sims_str : ∀ (l : List Str) (w : Str), (sl l).all (fun z => sim z (.str w)) = true
  | [], _ => rfl
  | _ :: l, w => sims_str l w
theorem deps_strs : ∀ l : List Str, deps (sl l) = 0
  | [] => rfl
  | x :: l => by
    show max 0 (deps (sl l)) = 0
    rw [deps_strs l]; rfl
theorem pAt_mem {P : List Str} {n : Nat} (h : n < P.length) : pAt P n ∈ P := getD_mem' h
theorem sortS_len (l : List Str) : (sortS l).length = l.length := (sortS_perm l).length_eq
theorem in_step {q : Nat × Nat} {n : Nat} {kk : Nat} : CmpR B kk .In (.int (n : Nat)) (stD q) (decide (n = q.1 ∨ n = q.2)) := by
  refine CmpR.in_tup rfl rfl ?_ (by show (0 : Nat) < 50; decide)
  rw [decide_eq_true_iff, List.mem_cons, List.mem_singleton]
  refine or_congr ⟨fun e => by rw [e], fun e => ?_⟩ ⟨fun e => by rw [e], fun e => ?_⟩
  · injection e with e; exact Int.ofNat.inj e
  · injection e with e; exact Int.ofNat.inj e
set_option maxHeartbeats 4000000 in
theorem c_read (T' : Tab9 B) {P : List Str} {W : List Nat} {order : List (Nat × Nat)} (ok : ReadOk P W order) :
    Calls B (k + 8) "_law_read" [.list (sl P), .list (pl order), .list (nl W)] (.bool true) := by
  have T := T'.toTab2
  have big : (100000 : Nat) ≤ sizeLine := by decide
  have hPz : (sl P).length ≤ sizeLine := by rw [sl_len, ok.len]; omega
  have hOz : (pl order).length ≤ sizeLine := by rw [pl_len]; have := ok.olen; omega
  refine Calls.of (o := .ret (.bool true)) (xs := ["paths", "order", "where"]) (Γ' := []) T.toTab.O T'.read (.plain (fun _ _ _ => len3 fun _ _ _ => rfl)) (by simp) ?_
  let Gr : G := [("paths", .sh (.list (sl P))), ("order", .sh (.list (pl order))), ("where", .sh (.list (nl W)))]
  refine Ex.cons (Γ₁ := Gr) (Ex1.for_ (ds := numD 0 (pl order)) (EvI.enum T.toTab.O (T.toTab.blt _ _ (by rfl)) (by rfl) (EvL.cons (Ev.name (by rfl)) .nil)) ?_) (Ex.weak (Ex.stop (Ex1.ret Ev.cbool) (by simp)) (fun y s hy => by cases hy))
  refine (?_ : ∀ (q pre : List (Nat × Nat)) (hq : order = pre ++ q), Loop B _ _ _ _ Gr (numD pre.length (pl q)) .next Gr) order [] rfl
  intro q
  induction q with
  | nil => intro pre hq; exact .done
  | cons p rest IH =>
    intro pre hq
    refine byEE (ok.at_ pre p rest hq) fun x y ra => ?_
    have hp := ok.so.rng p (by rw [hq]; simp)
    have hpre : pre.length < 20 := by
      have := ok.olen
      rw [hq, List.length_append] at this; omega
    have dP : ∀ n : Nat, n < 5 → (sl P)[((n : Nat) : Int).toNat]? = some (.str (pAt P n)) := fun n h => sl_getN (by rw [ok.len]; exact h)
    have m0 := pAt_mem (P := P) (n := p.1) (by rw [ok.len]; exact hp.2)
    have w0 : ∀ n : Nat, (0 : Int) ≤ ((n : Nat) : Int) := fun n => Int.natCast_nonneg _
    have w1 : ∀ n : Nat, n < 5 → ((n : Nat) : Int) < 2 ^ 63 := fun n h => small63 (by omega)
    let G1 : G := [("paths", .sh (.list (sl P))), ("order", .sh (.list (pl order))), ("where", .sh (.list (nl W))), ("at", .sh (.int (pre.length : Nat))), ("step", .sh (stD p))]
    refine Loop.step' (X₂ := Gr) (X₁ := G1) ?_ ?_ ?_
    · have := IH (pre ++ [p]) (by rw [hq]; simp)
      rw [List.length_append] at this
      exact this
    · (apply Asg.tup; exact T.O; (apply AsgL.cons; (apply Asg.name; exact T.O; decide); (apply AsgL.cons; (apply Asg.name; exact T.O; decide); apply AsgL.nil; exact rfl); exact rfl); exact rfl; exact rfl)
    · refine Ex.cons (Γ₁ := G1 ++ ([("path", .sh (.str (pAt P p.1)))] : G)) ?_ ?_
      · have a1 := dP p.1 hp.2
        have a2 := w0 p.1
        have a3 := w1 p.1 hp.2
        exact Ex1.assign (Ev.sub (EvB.sh (by rfl)) (Ev.b (Ev.sub (EvB.sh (by rfl)) (Ev.b Ev.cint) (SubR.tup (d := .int (p.1 : Nat)) (by decide) (by decide) (by rfl)))) (SubR.list a2 a3 a1)) (Asg.name T.toTab.O (.inr (by rfl)))
      have hl := ra.hr
      let held := heldS P (pAt P p.1)
      refine Ex.cons (Γ₁ := G1 ++ ([("path", .sh (.str (pAt P p.1))), ("held", .sh (.list (sl held)))] : G)) (Ex1.assign (EvF.ev (EvF.blt T.toTab.O (T.toTab.blt _ _ (by rfl)) (by rfl) (.cons (d := .list (sl (P.filter fun q => commS [pAt P p.1, q] == pAt P p.1))) (Ev.b (EvF.ev (EvF.comp (cx := false) T.toTab.O (EvIB.list T.toTab.O (EvB.sh (by rfl))) (by exact ScOk.of (by rfl) (by rfl) (by rfl) (by intros; rfl) (by intros; rfl)) (by rfl) ?_ ?_ (by intros; rfl)))) .nil) (BltF.sortedS T.toTab.O ?_))) (Asg.name T.toTab.O (.inr (by rfl)))) ?_
      · refine CompR.of D.str (fun q => commS [pAt P p.1, q] == pAt P p.1) D.str P (fun q mq => ?_) (fun q mq _ => Ev.name (by rfl))
        have cc := fun kk => c_commonpath (k := kk) T.toTab (ok.cp _ q m0 mq)
        exact EvIfs.one (EvT.cmp (Ev.b (Ev.call T.toTab.O (by rfl) (cc (k + 1)) (by (exact ⟨_, _, _, T.commonpath⟩)) (.cons (EvF.ev (EvF.list T.toTab.O (.cons (Ev.name (by rfl)) (.cons (Ev.name (by rfl)) .nil)) (by show 2 ≤ sizeLine; decide))) .nil))) (EvB.sh (by rfl)) CmpR.eq_str)
      · rw [sl_len]; exact Nat.le_trans (List.length_filter_le _ _) (by rw [ok.len]; omega)
      · exact Nat.lt_of_le_of_lt (List.length_filter_le _ _) (by rw [ok.len]; decide)
      let mov := movedS P W held
      have lH : held.length ≤ 5 := by
        show (heldS P (pAt P p.1)).length ≤ 5
        unfold heldS; rw [sortS_len]; exact Nat.le_trans (List.length_filter_le _ _) (Nat.le_of_eq ok.len)
      have lM5 : ([0, 1, 2, 3, 4].filter fun n => decide (pAt P n ∈ held)).length ≤ 5 := List.length_filter_le _ _
      have lM : mov.length ≤ 5 := by
        show (movedS P W held).length ≤ 5
        unfold movedS; rw [sortS_len, List.length_map]; exact lM5
      have csl := c_sld (k := k + 5) T'.toTab5 ra.hr ra.mr (Nat.le_trans lH (by decide)) (Nat.le_trans lM (by decide))
      rw [ra.sd] at csl
      let G2 : G := G1 ++ ([("path", .sh (.str (pAt P p.1))), ("held", .sh (.list (sl held)))] : G)
      let G3 : G := G2 ++ ([("lost", .sh (.list (sl [x]))), ("come", .sh (.list (sl [y])))] : G)
      refine Ex.cons (Γ₁ := G3) (Ex1.assign (d := .tup [.list (sl [x]), .list (sl [y])]) (Ev.call T.toTab.O (by rfl) csl ⟨_, _, _, T'.toTab5.sld⟩ (.cons (Ev.name (by rfl)) (.cons (EvF.ev (EvF.blt T.toTab.O (T.toTab.blt _ _ (by rfl)) (by rfl) (.cons (d := .list (sl (([0, 1, 2, 3, 4].filter fun n => decide (pAt P n ∈ held)).map fun n => pAt P (W.getD n 0)))) (Ev.b (EvF.ev (EvF.comp (cx := false) (ds := nl [0, 1, 2, 3, 4]) T.toTab.O (EvI.b (EvI.range1 T.toTab.O (T.toTab.blt _ _ (by rfl)) (by rfl) (n := 5) (EvLB.cons (Ev.cint.b) .nil) (by decide) (by decide))) (by exact ScOk.of (by rfl) (by rfl) (by rfl) (by intros; rfl) (by intros; rfl)) (by rfl) ?_ ?_ (by intros; rfl)))) .nil) (BltF.sortedS T.toTab.O ?_))) .nil))) (by (apply Asg.tup; exact T.O; (apply AsgL.cons; (apply Asg.name; exact T.O; decide); (apply AsgL.cons; (apply Asg.name; exact T.O; decide); apply AsgL.nil; exact rfl); exact rfl); exact rfl; exact rfl))) ?_
      · have e : sl (([0, 1, 2, 3, 4].filter fun n => decide (pAt P n ∈ held)).map fun n => pAt P (W.getD n 0)) = ([0, 1, 2, 3, 4].filter fun n => decide (pAt P n ∈ held)).map fun n => .str (pAt P (W.getD n 0)) := by simp [sl]
        rw [e]
        refine CompR.of (fun n : Nat => D.int (n : Int)) (fun n => decide (pAt P n ∈ held)) (fun n => .str (pAt P (W.getD n 0))) [0, 1, 2, 3, 4] (fun n mn => ?_) (fun n mn _ => ?_)
        · have hn : n < 5 := by simp at mn; omega
          exact EvIfs.one (EvT.cmp (Ev.b (Ev.sub (EvB.sh (by rfl)) (EvB.sh (by rfl)) (SubR.list (w0 n) (w1 n hn) (dP n hn)))) (EvB.sh (by rfl)) (CmpR.in_list rfl (sims_str _ _) (by rw [decide_eq_true_iff]; simp [sl]) (by rw [deps_strs]; decide)))
        · have hn : n < 5 := by simp at mn; omega
          have hw : W.getD n 0 < 5 := getD5 ok.wrng n
          exact Ev.sub (EvB.sh (by rfl)) (Ev.b (Ev.sub (EvB.sh (by rfl)) (EvB.sh (by rfl)) (SubR.list (w0 n) (w1 n hn) (nl_get (by rw [ok.wlen]; exact hn))))) (SubR.list (w0 _) (w1 _ hw) (dP _ hw))
      · rw [sl_len, List.length_map]; omega
      · rw [List.length_map]; omega
      refine Ex.cons (Γ₁ := G3) ?_ ?_
      · have zx : (sl [x]).length ≤ sizeLine := by show 1 ≤ sizeLine; decide
        have zy : (sl [y]).length ≤ sizeLine := by show 1 ≤ sizeLine; decide
        (focus (apply Ex1.ife; (case x => (apply EvT.bool; (apply EvA.or; (apply EvT.cmp; (apply Ev.b; (apply Ev.blt; exact T.O; exact T.blt _ _ (by rfl); exact rfl; (apply EvLB.cons; (apply EvB.sh; exact rfl; exact rfl; exact rfl); apply EvLB.nil; exact rfl); (apply BltR.lenList; (with_reducible assumption)); exact rfl; exact rfl; exact rfl)); (apply Ev.b; apply Ev.cint); apply CmpR.ne_int; exact rfl); (intros; (apply EvA.or; (apply EvT.cmp; (apply Ev.b; (apply Ev.blt; exact T.O; exact T.blt _ _ (by rfl); exact rfl; (apply EvLB.cons; (apply EvB.sh; exact rfl; exact rfl; exact rfl); apply EvLB.nil; exact rfl); (apply BltR.lenList; (with_reducible assumption)); exact rfl; exact rfl; exact rfl)); (apply Ev.b; apply Ev.cint); apply CmpR.ne_int; exact rfl); (intros; apply EvA.nil)))))); (case' z => intro hb); (case' y => intro hb)))
        · exact absurd hb (by simp [sl])
        · exact Ex.nil
      refine Ex.weak (Γ' := G3) ?_ (fun y s hy => weakApp (X := [_, _, _, _, _, _]) hy)
      let pd : Nat × Str → D := fun q => .tup [.int (q.1 : Nat), .str q.2]
      refine Ex.cons (Γ₁ := G3) (Ex1.for_ (ds := [(p.1, x), (p.2, y)].map pd) (EvI.list T.toTab.O (EvF.ev (EvF.list T.toTab.O (.cons (Ev.tup (ds := [.int (p.1 : Nat), .str x]) T.toTab.O (by (apply EvL.cons; (apply Ev.sub; (apply EvB.sh; exact rfl; exact rfl; exact rfl); (apply Ev.b; apply Ev.cint); (apply SubR.tup; decide; decide; exact rfl); exact rfl); (apply EvL.cons; (apply Ev.sub; (apply EvB.sh; exact rfl; exact rfl; exact rfl); (apply Ev.b; apply Ev.cint); (apply SubR.list; decide; decide; exact rfl); exact rfl); apply EvL.nil; exact rfl); exact rfl)) (by show 2 ≤ sizeLine; decide)) (.cons (Ev.tup (ds := [.int (p.2 : Nat), .str y]) T.toTab.O (by (apply EvL.cons; (apply Ev.sub; (apply EvB.sh; exact rfl; exact rfl; exact rfl); (apply Ev.b; apply Ev.cint); (apply SubR.tup; decide; decide; exact rfl); exact rfl); (apply EvL.cons; (apply Ev.sub; (apply EvB.sh; exact rfl; exact rfl; exact rfl); (apply Ev.b; apply Ev.cint); (apply SubR.list; decide; decide; exact rfl); exact rfl); apply EvL.nil; exact rfl); exact rfl)) (by show 2 ≤ sizeLine; decide)) .nil)) (by show 2 ≤ sizeLine; decide)))) ?_) .nil
      refine (?_ : ∀ (l : List (Nat × Str)) (hl : ∀ q, q ∈ l → q.1 < 5 ∧ q.2 ∈ P ∧ bey P rest q.1 q.2 = true), Loop B _ _ _ _ G3 (l.map pd) .next G3) [(p.1, x), (p.2, y)] (fun q mq => by
        rcases List.mem_cons.mp mq with rfl | mq
        · exact ⟨hp.2, ra.xm, ra.bx⟩
        · rw [List.mem_singleton.mp mq]; exact ⟨Nat.lt_trans hp.1 hp.2, ra.ym, ra.by_⟩)
      intro l hl
      refine Loop.all fun d md => ?_
      refine byEA (List.mem_map.mp md) fun q mq hd => ?_
      subst hd
      refine byAA (hl q mq) fun hn hone hbey => ?_
      obtain ⟨n, one⟩ := q
      let G4 : G := G3 ++ ([("k", .sh (.int (n : Nat))), ("one", .sh (.str one))] : G)
      refine ⟨G4, by simp only [pd]; (apply Asg.tup; exact T.O; (apply AsgL.cons; (apply Asg.name; exact T.O; decide); (apply AsgL.cons; (apply Asg.name; exact T.O; decide); apply AsgL.nil; exact rfl); exact rfl); exact rfl; exact rfl), ?_⟩
      let lat := laterOf rest n
      let G5 : G := G4 ++ ([("later", .own none (.list (pl (laterOf rest n))))] : G)
      let G6 : G := G5 ++ ([("beyond", .sh (.bool true))] : G)
      refine Ex.weak (Γ' := G6) ?_ (fun y s hy => weakApp (X := [_, _, _, _]) hy)
      refine Ex.cons (Γ₁ := G5) (Ex1.assignC (cx := false) (ds := pl rest) (out := pl (laterOf rest n)) T.toTab.O (EvIB.list T.toTab.O (Ev.b (EvF.ev ?_))) (by exact ScOk.of (by rfl) (by rfl) (by rfl) (by intros; rfl) (by intros; rfl)) (by rfl) (CompR.of stD (fun q => decide (n = q.1 ∨ n = q.2)) stD rest (fun q mq => ?_) (fun q mq _ => Ev.name (by rfl))) ?_ (.inl (by rfl)) (by intros; rfl) (fun env eo => swapsC (by rfl) (by rfl) (by rfl) env eo)) ?_
      · have e : pl rest = cut (pl order) (some (((pre.length : Nat) : Int) + 1)) none := by
          refine Eq.trans ?_ (cut_drop (pl order) (pre.length + 1)).symm
          rw [hq, pl_app]
          have : (pl pre).length = pre.length := pl_len _
          rw [← this]
          show _ = List.drop _ (pl pre ++ (stD p :: pl rest))
          rw [← List.drop_drop, List.drop_left]; rfl
        rw [e]
        exact EvF.slice T.toTab.O (EvB.sh (by rfl)) (.some (by (apply Ev.bin; (apply EvB.sh; exact rfl; exact rfl; exact rfl); (apply Ev.b; apply Ev.cint); apply BinR.add_int))) .none hOz
      · exact EvIfs.one (EvT.cmp (EvB.sh (by rfl)) (EvB.sh (by rfl)) in_step)
      · rw [pl_len]; unfold laterOf
        have h1 : rest.length ≤ order.length := by rw [hq, List.length_append, List.length_cons]; omega
        have h2 := ok.olen
        have h3 := List.length_filter_le (fun q : Nat × Nat => decide (n = q.1 ∨ n = q.2)) rest
        omega
      have aP := dP n hn
      have a0 := w0 n
      have a1 := w1 n hn
      refine Ex.cons (Γ₁ := G6) ?_ ?_
      · unfold bey at hbey
        have hlat : ∀ o, o ∈ laterOf rest n → o.1 < 5 := fun o mo => (ok.so.rng o (by rw [hq]; exact List.mem_append_right _ (.tail _ (List.mem_filter.mp mo).1))).2
        simp only [G5, G6]
        generalize laterOf rest n = lt at hbey hlat ⊢
        cases lt with
        | nil =>
          have hbey : (one == pAt P n) = true := hbey
          refine Ex1.ife (c := true) (EvT.cmp (d₁ := .list []) (d₂ := .list []) (EvB.own (by rfl)) (by (apply Ev.b; (apply EvF.ev; (apply EvF.list; exact T.O; apply EvL.nil; exact Nat.le_of_ble_eq_true rfl)))) (CmpR.eq_list rfl (by simp) (by decide))) (fun _ => ?_) (fun hb => nomatch hb)
          refine Ex.cons (Ex1.assign (d := .bool true) (Ev.cmp (d₁ := .str one) (d₂ := .str (pAt P n)) (EvB.sh (by rfl)) (by (apply Ev.b; (apply Ev.sub; (apply EvB.sh; exact rfl; exact rfl; exact rfl); (apply EvB.sh; exact rfl; exact rfl; exact rfl); (apply SubR.list; (with_reducible assumption); (with_reducible assumption); (with_reducible assumption)); exact rfl))) (hbey ▸ CmpR.eq_str)) (Asg.name T.toTab.O (.inl (by rfl)))) .nil
        | cons o r =>
          have hbey : (if o.2 = n then commS [pAt P o.1, one] == pAt P o.1 else !(commS [pAt P n, one] == pAt P n)) = true := hbey
          have ho := hlat o (.head _)
          have aO := dP o.1 ho
          have o0 := w0 o.1
          have o1 := w1 o.1 ho
          refine Ex1.ife (c := false) (EvT.cmp (d₁ := .list (pl (o :: r))) (d₂ := .list []) (EvB.own (by rfl)) (by (apply Ev.b; (apply EvF.ev; (apply EvF.list; exact T.O; apply EvL.nil; exact Nat.le_of_ble_eq_true rfl)))) (CmpR.eq_list (sims_nil _) (by simp [pl]) (Nat.lt_of_le_of_lt (deps_pl _) (by decide)))) (fun hb => nomatch hb) (fun _ => ?_)
          refine Ex.cons (Ex1.ife (c := ((o.2 : Nat) : Int) == ((n : Nat) : Int)) (EvT.cmp (d₁ := .int (o.2 : Nat)) (d₂ := .int (n : Nat)) (Ev.b (Ev.sub (Ev.b (Ev.sub (EvB.own (by rfl)) (Ev.b Ev.cint) (SubR.list (d := stD o) (by decide) (by decide) (by rfl)))) (Ev.b Ev.cint) (SubR.tup (by decide) (by decide) (by rfl)))) (EvB.sh (by rfl)) CmpR.eq_int) (fun hb => ?_) (fun hb => ?_)) .nil
          · rw [if_pos (eqNat hb)] at hbey
            have cc := fun kk => c_commonpath (k := kk) T.toTab (ok.cp _ one (pAt_mem (P := P) (n := o.1) (by rw [ok.len]; exact ho)) hone)
            refine Ex.cons (Ex1.assign (d := .bool true) (Ev.cmp (d₁ := .str (commS [pAt P o.1, one])) (d₂ := .str (pAt P o.1)) (Ev.b (Ev.call T.toTab.O (by rfl) (cc (k + 1)) (by (exact ⟨_, _, _, T.commonpath⟩)) (.cons (EvF.ev (EvF.list T.toTab.O (.cons (Ev.sub (EvB.sh (by rfl)) ?_ (SubR.list o0 o1 aO)) (.cons (Ev.name (by rfl)) .nil)) (by show 2 ≤ sizeLine; decide))) .nil))) (Ev.b (Ev.sub (EvB.sh (by rfl)) ?_ (SubR.list o0 o1 aO))) (hbey ▸ CmpR.eq_str)) (Asg.name T.toTab.O (.inl (by rfl)))) .nil
            · exact Ev.b (Ev.sub (Ev.b (Ev.sub (EvB.own (by rfl)) (Ev.b Ev.cint) (SubR.list (d := stD o) (by decide) (by decide) (by rfl)))) (Ev.b Ev.cint) (SubR.tup (by decide) (by decide) (by rfl)))
            · exact Ev.b (Ev.sub (Ev.b (Ev.sub (EvB.own (by rfl)) (Ev.b Ev.cint) (SubR.list (d := stD o) (by decide) (by decide) (by rfl)))) (Ev.b Ev.cint) (SubR.tup (by decide) (by decide) (by rfl)))
          · rw [if_neg (neNat hb)] at hbey
            have cc := fun kk => c_commonpath (k := kk) T.toTab (ok.cp _ one (pAt_mem (P := P) (n := n) (by rw [ok.len]; exact hn)) hone)
            have cn : CmpR B (k + 7) .NotEq (.str (commS [pAt P n, one])) (.str (pAt P n)) true := hbey ▸ CmpR.ne_str
            exact Ex.cons (Ex1.assign (d := .bool true) (Ev.cmp (d₁ := .str (commS [pAt P n, one])) (d₂ := .str (pAt P n)) (Ev.b (Ev.call T.toTab.O (by rfl) (cc (k + 1)) (by (exact ⟨_, _, _, T.commonpath⟩)) (.cons (EvF.ev (EvF.list T.toTab.O (.cons (Ev.sub (EvB.sh (by rfl)) (EvB.sh (by rfl)) (SubR.list a0 a1 aP)) (.cons (Ev.name (by rfl)) .nil)) (by show 2 ≤ sizeLine; decide))) .nil))) (Ev.b (Ev.sub (EvB.sh (by rfl)) (EvB.sh (by rfl)) (SubR.list a0 a1 aP))) cn) (Asg.name T.toTab.O (.inl (by rfl)))) .nil
      · refine Ex.cons (Γ₁ := G6) ?_ .nil
        (focus (apply Ex1.ife; (case x => (apply EvT.not; (apply EvT.val; (apply EvB.sh; exact rfl; exact rfl; exact rfl); apply TruR.bool; ((try delta autoParam); intros; rfl)))); (case' z => intro hb); (case' y => intro hb)))
        · cases hb
        · exact Ex.nil
open PySem PySem.W PySem.Calls PyProof.Rows
variable {B : Base} {k : Nat}
noncomputable def stepsOf (ab : List Nat) : List (Nat × Nat) := [1, 2, 3, 4].map fun n => (n, ab.getD n 0)
noncomputable def firstOf (ab o : List Nat) : List (Nat × Nat) := o.map fun n => (stepsOf ab).getD (n - 1) (0, 0)
noncomputable def rowsOf (F : List (Nat × Nat)) : List (List (Nat × Nat)) := [0, 1, 2, 3, 4].map (laterOf F)
noncomputable def t0 : List Nat := [0, 1, 2, 3, 4]
structure LawOk (n : Nat) (texts : List Str) (names : List Str) (ab o1 o2 W : List Nat) (P : List Str) : Prop where
  kind : n < 5
  tlen : texts.length = 4
  nm : names = texts.map (Jv.L2.esc (forms n))
  same : ∀ t, t ∈ texts → toldS n t = Jv.L2.esc (forms n) t
  escok : ∀ t, t ∈ texts → escOk (forms n) t = true
  asc : ∀ t, t ∈ texts → t.cps.all (· < 128) = true
  jo : ∀ t, t ∈ texts → JoinOk "" (toldRow n t) = true
  jl : ∀ t, t ∈ texts → (toldRow n t).length ≤ sizeLine
  nsz : ∀ x, x ∈ names → x.length ≤ 100
  abok : AbOk ab
  ok1 : OrOk o1
  ok2 : OrOk o2
  pe : P = laidS ab names
  psz : ∀ p, p ∈ P → p.length ≤ 1000
  dir : ∀ n, 0 < n → n < 5 → dirS (pAt P n) = pAt P (ab.getD n 0)
  inj : ∀ i j, i < 5 → j < 5 → pAt P i = pAt P j → i = j
  base : ∀ n, n < 5 → baseS (pAt P n) = (("" : Str) :: names).getD n ""
  occ : ∀ c, c < 5 → ∃ r, Builtin.Str.occurrences (tg (doneN t0 (firstOf ab o1))) ⟨#[48 + c]⟩ 0 (tg (doneN t0 (firstOf ab o1))).length 1 = W.getD c 0 :: r
  ends : endsN ab o1 = W
  rnd : ∀ t, t ∈ allN 4 t0 (stepsOf ab) → RoundOk t
  cnt : (dedS ((allN 4 t0 (stepsOf ab)).map tg)).length = ordN ([0, 1, 2, 3, 4].map fun n => (laterOf (stepsOf ab) n).length)
  many : 1 < (dedS ((allN 4 t0 (stepsOf ab)).map tg)).length ∧ (dedS ((allN 4 t0 (stepsOf ab)).map tg)).length < 64
  iff_ : rowsOf (firstOf ab o1) = rowsOf (firstOf ab o2) ↔ doneN t0 (firstOf ab o1) = doneN t0 (firstOf ab o2)
  read : ReadOk P W (firstOf ab o1)
theorem tg0 : ("01234" : Str) = tg t0 := by decide
theorem il_nl (l : List Nat) : il (l.map Int.ofNat) = nl l := by simp [il, nl]
theorem mapI : ∀ {a b : List Nat}, a.map (48 + ·) = b.map (48 + ·) → a = b
  | [], [], _ => rfl
  | [], _ :: _, h => by cases h
  | _ :: _, [], h => by cases h
  | x :: a, y :: b, h => by
    injection h with h1 h2
    rw [mapI h2, Nat.add_left_cancel h1]
theorem tg_inj {a b : List Nat} (h : tg a = tg b) : a = b := by
  have := congrArg (fun x : Str => x.cps.toList) h
  rw [tg_cs, tg_cs] at this
  exact mapI this
theorem addS_sub {l : List Str} {x y : Str} (h : y ∈ addS l x) : y ∈ l ∨ y = x := by
  unfold addS at h
  split at h
  · exact .inl h
  · rcases List.mem_append.mp h with q | q
    · exact .inl q
    · exact .inr (List.mem_singleton.mp q)
theorem fold_sub : ∀ {l m : List Str} {y : Str}, y ∈ l.foldl addS m → y ∈ m ∨ y ∈ l
  | [], m, y, h => .inl h
  | x :: l, m, y, h => by
    rcases fold_sub (l := l) h with q | q
    · rcases addS_sub q with q | q
      · exact .inl q
      · exact .inr (q ▸ .head _)
    · exact .inr (.tail _ q)
theorem ded_sub {l : List Str} {y : Str} (h : y ∈ dedS l) : y ∈ l := (fold_sub h).resolve_left (fun q => by cases q)
theorem steps_get {ab : List Nat} {n : Nat} (h0 : 0 < n) (h : n < 5) : (pl (stepsOf ab))[((n : Nat) : Int).toNat - 1]? = some (stD ((stepsOf ab).getD (n - 1) (0, 0))) := by
  have : n - 1 < (stepsOf ab).length := by show _ < 4; omega
  simp [pl, this]
theorem firstOf_ok {ab o : List Nat} (a : AbOk ab) (ok : OrOk o) : StOk (firstOf ab o) := ⟨fun p mp => by
  refine byEA (List.mem_map.mp mp) fun n mn e => ?_
  have hn := ok.rng n mn
  subst e
  have e : (stepsOf ab).getD (n - 1) (0, 0) = (n, ab.getD n 0) := by
    match n, hn with
    | 1, _ => rfl
    | 2, _ => rfl
    | 3, _ => rfl
    | 4, _ => rfl
  rw [e]
  exact ⟨a.up n hn.1 hn.2, hn.2⟩⟩
theorem stepsOf_ok {ab : List Nat} (a : AbOk ab) : StOk (stepsOf ab) := ⟨fun p mp => by
  refine byEA (List.mem_map.mp mp) fun n mn e => ?_
  subst e
  have : 0 < n ∧ n < 5 := by simp at mn; omega
  exact ⟨a.up n this.1 this.2, this.2⟩⟩
noncomputable def rowD (l : List (List (Nat × Nat))) : List D := l.map fun l => .list (pl l)
theorem sims_pl : ∀ a b : List (Nat × Nat), sims (pl a) (pl b) = true
  | [], [] => rfl
  | [], _ :: _ => rfl
  | _ :: _, [] => rfl
  | p :: a, q :: b => by
    show ((true && (true && true)) && sims (pl a) (pl b)) = true
    rw [sims_pl a b]; rfl
theorem sims_rows : ∀ a b : List (List (Nat × Nat)), sims (rowD a) (rowD b) = true
  | [], [] => rfl
  | [], _ :: _ => rfl
  | _ :: _, [] => rfl
  | p :: a, q :: b => by
    show (sims (pl p) (pl q) && sims (rowD a) (rowD b)) = true
    rw [sims_pl, sims_rows a b]; rfl
theorem deps_rows : ∀ l : List (List (Nat × Nat)), deps (rowD l) ≤ 2
  | [] => by decide
  | x :: l => by
    show max (deps (pl x) + 1) (deps (rowD l)) ≤ 2
    have := deps_pl x
    have := deps_rows l
    omega
theorem pl_inj : ∀ {a b : List (Nat × Nat)}, pl a = pl b → a = b
  | [], [], _ => rfl
  | [], _ :: _, h => by cases h
  | _ :: _, [], h => by cases h
  | p :: a, q :: b, h => by
    have h : stD p :: pl a = stD q :: pl b := h
    injection h with h1 h2
    injection h1 with e
    injection e with e1 e2
    injection e2 with e2 _
    injection e1 with e1
    injection e2 with e2
    rw [pl_inj h2, Prod.ext (Int.ofNat.inj e1) (Int.ofNat.inj e2)]
theorem rowD_inj : ∀ {a b : List (List (Nat × Nat))}, rowD a = rowD b → a = b
  | [], [], _ => rfl
  | [], _ :: _, h => by cases h
  | _ :: _, [], h => by cases h
  | p :: a, q :: b, h => by
    have h : D.list (pl p) :: rowD a = D.list (pl q) :: rowD b := h
    injection h with h1 h2
    injection h1 with e
    rw [pl_inj e, rowD_inj h2]
set_option maxHeartbeats 4000000 in
theorem c_law (T' : Tab9 B) (FL : FnAt B "law" law_args law_body law_scope) {script : List Int} (hsl : script.length ≤ sizeLine) {n : Nat} {texts names P : List Str} {ab o1 o2 W : List Nat}
    (hd : drawnD (addC 0 (script.take 60) [17, 21, 20, 14]) = .tup [.int n, .list (sl texts), .list (nl ab), .list [.list (nl o1), .list (nl o2)]]) (L : LawOk n texts names ab o1 o2 W P) :
    Calls B (k + 10) "law" [.list (il script)] (.bool true) := by
  have T := T'.toTab2
  have big : (100000 : Nat) ≤ sizeLine := by decide
  have hP5 : P.length = 5 := L.read.len
  have w0 : ∀ n : Nat, (0 : Int) ≤ ((n : Nat) : Int) := fun n => Int.natCast_nonneg _
  have w1 : ∀ n : Nat, n < 5 → ((n : Nat) : Int) < 2 ^ 63 := fun n h => small63 (by omega)
  have dP : ∀ n : Nat, n < 5 → (sl P)[((n : Nat) : Int).toNat]? = some (.str (pAt P n)) := fun n h => sl_getN (by rw [hP5]; exact h)
  refine Calls.of (o := .ret (.bool true)) (xs := ["script"]) (Γ' := []) T.toTab.O FL (.plain (fun _ _ _ => len1 fun _ => rfl)) (by simp) ?_
  have cd := c_drawn (k := k + 7) T'.toTab6 hsl
  rw [hd] at cd
  apply Ex.cons
  · apply Ex1.assign (d := .tup [.int n, .list (sl texts), .list (nl ab), .list [.list (nl o1), .list (nl o2)]])
    · exact Ev.call T.toTab.O (by rfl) cd ⟨_, _, _, T'.drawn⟩ (by (apply EvL.cons; (apply Ev.name; exact rfl; exact rfl; exact rfl); apply EvL.nil; exact rfl))
    · (apply Asg.tup; exact T.O; (apply AsgL.cons; (apply Asg.name; exact T.O; decide); (apply AsgL.cons; (apply Asg.name; exact T.O; decide); (apply AsgL.cons; (apply Asg.name; exact T.O; decide); (apply AsgL.cons; (apply Asg.name; exact T.O; decide); apply AsgL.nil; exact rfl); exact rfl); exact rfl); exact rfl); exact rfl; exact rfl)
    all_goals first | rfl | (intros; rfl)
  (show Ex _ _ _ [_, _, _, _, _] _ _ _)
  have hlc : (sl (texts.map (esc (forms n)))).length ≤ sizeLine := by rw [sl_len, List.length_map, L.tlen]; omega
  have hlt : (sl (texts.map (toldS n))).length ≤ sizeLine := by rw [sl_len, List.length_map, L.tlen]; omega
  let G0 : G := [("script", .sh (.list (il script))), ("kind", .sh (.int n)), ("texts", .sh (.list (sl texts))), ("above", .sh (.list (nl ab))), ("orders", .sh (.list [.list (nl o1), .list (nl o2)]))]
  have cla := c_laid (k := k + 4) T'.toTab7 L.abok (names := names) (by rw [L.nm, List.length_map, L.tlen]) L.nsz
  rw [← L.pe] at cla
  refine Ex.cons (Γ₁ := G0 ++ ([("paths", .sh (.list (sl P)))] : G)) (Ex1.assign (Ev.call T.toTab.O (by rfl) cla ⟨_, _, _, T'.laid⟩ (.cons (Ev.name (by rfl)) (.cons (by
    rw [L.nm]
    refine EvF.ev (EvF.comp (cx := false) T.toTab.O (EvIB.list T.toTab.O (EvB.sh (by rfl))) (by exact ScOk.of (by rfl) (by rfl) (by rfl) (by intros; rfl) (by intros; rfl)) (by rfl) ?_ hlc (by intros; rfl))
    have e : sl (texts.map (esc (forms n))) = texts.map fun t => .str (esc (forms n) t) := by simp [sl]
    rw [e]
    refine CompR.map D.str (fun t => .str (esc (forms n) t)) texts fun t m => ?_
    have cw := fun kk => c_written (k := kk) T'.toTab3 L.kind (L.escok t m)
    exact Ev.call T.toTab.O (by rfl) (cw (k + 7)) ⟨_, _, _, T'.written⟩ (by (apply EvL.cons; (apply Ev.name; exact rfl; exact rfl; exact rfl); (apply EvL.cons; (apply Ev.name; exact rfl; exact rfl; exact rfl); apply EvL.nil; exact rfl); exact rfl))) .nil))) (Asg.name T.toTab.O (.inr (by rfl)))) ?_
  let told : List Str := "" :: names
  refine Ex.cons (Γ₁ := G0 ++ ([("paths", .sh (.list (sl P))), ("told", .sh (.list (sl told)))] : G)) (Ex1.assign (EvF.ev (EvF.bin (d₁ := .list [.str ""]) (d₂ := .list (sl (texts.map (toldS n)))) (by (apply Ev.b; (apply EvF.ev; (apply EvF.list; exact T.O; (apply EvL.cons; apply Ev.cstr; apply EvL.nil; exact rfl); exact Nat.le_of_ble_eq_true rfl)))) (Ev.b (EvF.ev (EvF.comp (cx := false) T.toTab.O (EvIB.list T.toTab.O (EvB.sh (by rfl))) (by exact ScOk.of (by rfl) (by rfl) (by rfl) (by intros; rfl) (by intros; rfl)) (by rfl) ?_ hlt (by intros; rfl)))) ?_)) (Asg.name T.toTab.O (.inr (by rfl)))) ?_
  · have e : sl (texts.map (toldS n)) = texts.map fun t => .str (toldS n t) := by simp [sl]
    rw [e]
    refine CompR.map D.str (fun t => .str (toldS n t)) texts fun t m => ?_
    have cw := fun kk => c_told (k := kk) T'.toTab4 L.kind (L.asc t m) (L.jo t m) (L.jl t m)
    exact Ev.call T.toTab.O (by rfl) (cw (k + 7)) ⟨_, _, _, T'.told⟩ (by (apply EvL.cons; (apply Ev.name; exact rfl; exact rfl; exact rfl); (apply EvL.cons; (apply Ev.name; exact rfl; exact rfl; exact rfl); apply EvL.nil; exact rfl); exact rfl))
  · have e : sl told = [D.str ""] ++ sl (texts.map (toldS n)) := by
      show D.str "" :: sl names = _
      rw [L.nm]
      have : texts.map (esc (forms n)) = texts.map (toldS n) := List.map_congr_left fun t m => (L.same t m).symm
      rw [this]; rfl
    rw [e]
    exact BinF.add_list T.toTab.O (by rw [sl_len, List.length_map, L.tlen]; show 1 + 4 ≤ _; omega)
  let G1 : G := G0 ++ ([("paths", .sh (.list (sl P))), ("told", .sh (.list (sl told)))] : G)
  refine Ex.cons (Γ₁ := G1 ++ ([("steps", .sh (.list (pl (stepsOf ab))))] : G)) (Ex1.assignK (EvF.ev (EvF.comp (cx := false) (ds := nl [1, 2, 3, 4]) (out := pl (stepsOf ab)) T.toTab.O (EvI.b (EvI.range2 T.toTab.O (T.toTab.blt _ _ (by rfl)) (by rfl) (n := 4) (EvLB.cons (Ev.cint.b) (EvLB.cons (Ev.cint.b) .nil)) (by decide) (by decide))) (by exact ScOk.of (by rfl) (by rfl) (by rfl) (by intros; rfl) (by intros; rfl)) (by rfl) ?_ (by show 4 ≤ sizeLine; omega) (by intros; rfl))) (Asg.name T.toTab.O (.inr (by rfl))) (noSwap (by rfl))) ?_
  · refine CompR.map (fun n : Nat => D.int (n : Int)) (fun n => stD (n, ab.getD n 0)) [1, 2, 3, 4] fun m mm => ?_
    have hm : 0 < m ∧ m < 5 := by simp at mm; omega
    have hup := L.abok.up m hm.1 hm.2
    have cdn := fun kk => c_dirname (k := kk) T.toTab (p := pAt P m) (by have := L.psz _ (pAt_mem (P := P) (n := m) (by omega)); omega)
    rw [L.dir m hm.1 hm.2] at cdn
    refine Ev.tup (ds := [.int (m : Nat), .int (ab.getD m 0 : Nat)]) T.toTab.O (.cons (Ev.name (by rfl)) (.cons (Ev.meth (d₀ := .list (sl P)) (EvB.sh (by rfl)) (.cons (Ev.b (Ev.call T.toTab.O (by rfl) (cdn (k + 6)) (by (exact ⟨_, _, _, T.dirname⟩)) (.cons (Ev.sub (EvB.sh (by rfl)) (EvB.sh (by rfl)) (SubR.list (w0 m) (w1 m hm.2) (dP m hm.2))) .nil))) .nil) Meth.indexL OfType.list (BltR.indexL (j := ab.getD m 0) rfl (sims_str P _) (by rw [deps_strs]; decide) (dP (ab.getD m 0) (by omega)) (fun i hi e => ?_) (by omega))) .nil)) (by show 2 ≤ sizeLine; decide)
    have e2 := dP i (by omega)
    rw [show (((i : Nat) : Int).toNat) = i from rfl, e] at e2
    injection e2 with e2
    injection e2 with e2
    have := L.inj _ _ (by omega) (by omega) e2
    omega
  let G2 : G := G1 ++ ([("steps", .sh (.list (pl (stepsOf ab))))] : G)
  let F1 := firstOf ab o1
  let F2 := firstOf ab o2
  refine Ex.cons (Γ₁ := G2 ++ ([("first", .sh (.list (pl F1))), ("second", .sh (.list (pl F2)))] : G)) (Ex1.assign (d := .list [.list (pl F1), .list (pl F2)]) (EvF.ev (EvF.comp (cx := false) (ds := [o1, o2].map fun o => .list (nl o)) T.toTab.O (EvIB.list T.toTab.O (EvB.sh (by rfl))) (by exact ScOk.of (by rfl) (by rfl) (by rfl) (by intros; rfl) (by intros; rfl)) (by rfl) (CompR.map (fun o : List Nat => D.list (nl o)) (fun o => .list (pl (firstOf ab o))) [o1, o2] fun o mo => ?_) (by show 2 ≤ sizeLine; decide) (by intros; rfl))) (Asg.tupL T.toTab.O (.cons (Asg.name T.toTab.O (.inl (by rfl))) (.cons (Asg.name T.toTab.O (.inl (by rfl))) .nil)))) ?_
  · have oo : OrOk o := by
      rcases List.mem_cons.mp mo with rfl | mo
      · exact L.ok1
      · rw [List.mem_singleton.mp mo]; exact L.ok2
    have hz : (pl (firstOf ab o)).length ≤ sizeLine := by rw [pl_len]; unfold firstOf; rw [List.length_map, oo.len]; omega
    have e : pl (firstOf ab o) = o.map fun m => stD ((stepsOf ab).getD (m - 1) (0, 0)) := by simp [pl, firstOf]
    refine EvF.ev (EvF.comp (cx := false) (ds := nl o) T.toTab.O (EvIB.list T.toTab.O (EvB.sh (by rfl))) (by exact ScOk.of (by rfl) (by rfl) (by rfl) (by intros; rfl) (by intros; rfl)) (by rfl) ?_ hz (by intros; rfl))
    rw [e]
    refine CompR.map (fun n : Nat => D.int (n : Int)) _ o fun m mm => ?_
    have hm := oo.rng m mm
    have e1 : ((m : Nat) : Int) - 1 = ((m - 1 : Nat) : Int) := by omega
    have d := steps_get (ab := ab) hm.1 hm.2
    have d' : (pl (stepsOf ab))[(((m : Nat) : Int) - 1).toNat]? = some (stD ((stepsOf ab).getD (m - 1) (0, 0))) := by
      rw [e1]; exact d
    have a0 : (0 : Int) ≤ ((m : Nat) : Int) - 1 := by omega
    have a1 : ((m : Nat) : Int) - 1 < 2 ^ 63 := by omega
    exact Ev.sub (EvB.sh (by rfl)) (Ev.b (Ev.bin (EvB.sh (by rfl)) (Ev.b Ev.cint) BinR.sub_int)) (SubR.list a0 a1 d')
  have so1 : StOk F1 := firstOf_ok L.abok L.ok1
  have so2 : StOk F2 := firstOf_ok L.abok L.ok2
  have ht0 : t0.length = 5 := rfl
  let t1 := doneN t0 F1
  let G3 : G := G2 ++ ([("first", .sh (.list (pl F1))), ("second", .sh (.list (pl F2)))] : G)
  have c0 : ∀ K Γ (p : Pos) u, Ev B (k + 9) K Γ (.Constant (.str "01234") u p) (.str (tg t0)) := fun K Γ p u => tg0 ▸ Ev.cstr
  refine Ex.cons (Γ₁ := G3 ++ ([("tags", .sh (.str (tg t1)))] : G)) (Ex1.assign (Ev.call T.toTab.O (by rfl) (c_done (k := k + 6) T'.toTab7 ht0 so1) ⟨_, _, _, T'.toTab7.done⟩ (.cons (c0 _ _ _ _) (.cons (Ev.name (by rfl)) .nil))) (Asg.name T.toTab.O (.inr (by rfl)))) ?_
  have hsg : sl (signs (tg t0)) = [0, 1, 2, 3, 4].map fun c : Nat => .str ⟨#[48 + c]⟩ := by rfl
  have hW5 : W.length = 5 := L.read.wlen
  refine Ex.cons (Γ₁ := G3 ++ ([("tags", .sh (.str (tg t1))), ("where", .sh (.list (nl W)))] : G)) (Ex1.assignK (EvF.ev (EvF.comp (cx := false) (ds := [0, 1, 2, 3, 4].map fun c : Nat => .str ⟨#[48 + c]⟩) (out := nl W) T.toTab.O (hsg ▸ EvI.b (EvI.str T.toTab.O (c0 _ _ _ _) (by decide +kernel))) (by exact ScOk.of (by rfl) (by rfl) (by rfl) (by intros; rfl) (by intros; rfl)) (by rfl) ?_ (by rw [nl_len, hW5]; omega) (by intros; rfl))) (Asg.name T.toTab.O (.inr (by rfl))) (noSwap (by rfl))) ?_
  · have e : nl W = [0, 1, 2, 3, 4].map fun c => .int (W.getD c 0 : Nat) := by
      match W, hW5 with
      | [a, b, c, d, e], _ => rfl
    rw [e]
    refine CompR.map (fun c : Nat => D.str ⟨#[48 + c]⟩) (fun c => .int (W.getD c 0 : Nat)) [0, 1, 2, 3, 4] fun c mc => ?_
    have hc : c < 5 := by simp at mc; omega
    exact Ev.meth (d₀ := .str (tg t1)) (EvB.sh (by rfl)) (.cons (EvB.sh (by rfl)) .nil) Meth.index OfType.str (BltR.index (L.occ c hc))
  let G4 : G := G3 ++ ([("tags", .sh (.str (tg t1))), ("where", .sh (.list (nl W)))] : G)
  have cwk := c_walked (k := k + 6) T'.toTab7 L.abok L.ok1
  rw [L.ends] at cwk
  let G5 : G := G4 ++ ([("ends", .sh (.list (nl W)))] : G)
  refine Ex.cons (Γ₁ := G5) (Ex1.assign (Ev.call T.toTab.O (by rfl) cwk ⟨_, _, _, T'.toTab7.walked⟩ (.cons (Ev.name (by rfl)) (.cons (Ev.sub (d₁ := .list [.list (nl o1), .list (nl o2)]) (EvB.sh (by rfl)) (Ev.b Ev.cint) (SubR.list (by decide) (by decide) (by rfl))) .nil))) (Asg.name T.toTab.O (.inr (by rfl)))) ?_
  have hnm4 : names.length = 4 := by rw [L.nm, List.length_map, L.tlen]
  have dT : ∀ n : Nat, n < 5 → (sl told)[((n : Nat) : Int).toNat]? = some (.str (told.getD n "")) := fun n h => sl_getN (by show n < names.length + 1; omega)
  have hWr : ∀ n, n < 5 → W.getD n 0 < 5 := fun n _ => getD5 L.read.wrng n
  have dW : ∀ n : Nat, n < 5 → (nl W)[((n : Nat) : Int).toNat]? = some (.int (W.getD n 0 : Nat)) := fun n h => nl_get (by omega)
  let rowB : List D := [0, 1, 2, 3, 4].map fun n => .list (sl [told.getD n "", told.getD (W.getD n 0) ""])
  refine Ex.cons (Γ₁ := G5) (Ex1.ife (c := false) (EvT.cmp (d₁ := .list rowB) (d₂ := .list rowB) (Ev.b (EvF.ev (EvF.comp (cx := false) (ds := nl [0, 1, 2, 3, 4]) T.toTab.O (EvI.b (EvI.range1 T.toTab.O (T.toTab.blt _ _ (by rfl)) (by rfl) (n := 5) (EvLB.cons (Ev.cint.b) .nil) (by decide) (by decide))) (by exact ScOk.of (by rfl) (by rfl) (by rfl) (by intros; rfl) (by intros; rfl)) (by rfl) (CompR.map (fun n : Nat => D.int (n : Int)) _ [0, 1, 2, 3, 4] fun n mn => ?_) (by show 5 ≤ sizeLine; decide) (by intros; rfl)))) (Ev.b (EvF.ev (EvF.comp (cx := false) (ds := nl [0, 1, 2, 3, 4]) T.toTab.O (EvI.b (EvI.range1 T.toTab.O (T.toTab.blt _ _ (by rfl)) (by rfl) (n := 5) (EvLB.cons (Ev.cint.b) .nil) (by decide) (by decide))) (by exact ScOk.of (by rfl) (by rfl) (by rfl) (by intros; rfl) (by intros; rfl)) (by rfl) (CompR.map (fun n : Nat => D.int (n : Int)) _ [0, 1, 2, 3, 4] fun n mn => ?_) (by show 5 ≤ sizeLine; decide) (by intros; rfl)))) (CmpR.ne_list ?_ (by simp) ?_)) (fun hb => nomatch hb) (fun _ => .nil)) ?_
  · have hn : n < 5 := by simp at mn; omega
    have cb := fun kk m (hm : m < 5) => c_basename (k := kk) T.toTab (p := pAt P m) (by have := L.psz _ (pAt_mem (P := P) (n := m) (by omega)); omega)
    have b1 := cb (k + 6) n hn
    have b2 := cb (k + 6) (W.getD n 0) (hWr n hn)
    rw [L.base n hn] at b1
    rw [L.base _ (hWr n hn)] at b2
    exact EvF.ev (EvF.list T.toTab.O (.cons (Ev.call T.toTab.O (by rfl) b1 (by (exact ⟨_, _, _, T.basename⟩)) (.cons (Ev.sub (EvB.sh (by rfl)) (EvB.sh (by rfl)) (SubR.list (w0 n) (w1 n hn) (dP n hn))) .nil)) (.cons (Ev.call T.toTab.O (by rfl) b2 (by (exact ⟨_, _, _, T.basename⟩)) (.cons (Ev.sub (EvB.sh (by rfl)) (Ev.b (Ev.sub (EvB.sh (by rfl)) (EvB.sh (by rfl)) (SubR.list (w0 n) (w1 n hn) (dW n hn)))) (SubR.list (w0 _) (w1 _ (hWr n hn)) (dP _ (hWr n hn)))) .nil)) .nil)) (by show 2 ≤ sizeLine; decide))
  · have hn : n < 5 := by simp at mn; omega
    exact EvF.ev (EvF.list T.toTab.O (.cons (Ev.sub (EvB.sh (by rfl)) (EvB.sh (by rfl)) (SubR.list (w0 n) (w1 n hn) (dT n hn))) (.cons (Ev.sub (EvB.sh (by rfl)) (Ev.b (Ev.sub (EvB.sh (by rfl)) (EvB.sh (by rfl)) (SubR.list (w0 n) (w1 n hn) (dW n hn)))) (SubR.list (w0 _) (w1 _ (hWr n hn)) (dT _ (hWr n hn)))) .nil)) (by show 2 ≤ sizeLine; decide))
  · rfl
  · show (1 : Nat) < 50; decide
  let S := stepsOf ab
  have soS : StOk S := stepsOf_ok L.abok
  have hnd : S.Nodup := by
    show ([1, 2, 3, 4].map fun n => (n, ab.getD n 0)).Nodup
    simp
  have cal := c_all (k := k + 2) T'.toTab8 4 t0 S (Nat.le_refl _) ht0 rfl hnd soS
  have hal := allN_len 4 t0 S (by show 4 ≤ 5; decide)
  let R := sortS (dedS ((allN 4 t0 S).map tg))
  have hdl : (dedS ((allN 4 t0 S).map tg)).length < 64 := L.many.2
  have hRl : R.length = (dedS ((allN 4 t0 S).map tg)).length := sortS_len _
  let G6 : G := G5 ++ ([("rounds", .sh (.list (sl R)))] : G)
  refine Ex.cons (Γ₁ := G6) (Ex1.assign (EvF.ev (EvF.sortedSet T.toTab.O (T.toTab.blt _ _ (by rfl)) (T.toTab.blt _ _ (by rfl)) (by rfl) (by rfl) (Ev.b (Ev.call T.toTab.O (by rfl) cal ⟨_, _, _, T'.toTab8.all⟩ (.cons (c0 _ _ _ _) (.cons (Ev.name (by rfl)) .nil)))) (by rw [List.length_map]; omega) L.many.1 L.many.2)) (Asg.name T.toTab.O (.inl (by rfl)))) ?_
  refine Ex.cons (Γ₁ := G6) (Ex1.ife (c := false) (EvT.cmp (d₁ := .list []) (d₂ := .list []) (Ev.b (EvF.ev (EvF.comp (cx := false) (ds := sl R) (out := []) T.toTab.O (EvIB.list T.toTab.O (EvB.sh (by rfl))) (by exact ScOk.of (by rfl) (by rfl) (by rfl) (by intros; rfl) (by intros; rfl)) (by rfl) ?_ (by show 0 ≤ sizeLine; omega) (by intros; rfl)))) (by (apply Ev.b; (apply EvF.ev; (apply EvF.list; exact T.O; apply EvL.nil; exact Nat.le_of_ble_eq_true rfl)))) (CmpR.ne_list rfl (by simp) (by decide))) (fun hb => nomatch hb) (fun _ => .nil)) ?_
  · have e : ((R.filter fun _ => false).map D.str) = [] := by simp
    rw [← e]
    refine CompR.of D.str (fun _ => false) D.str R (fun x mx => ?_) (fun x mx q => by cases q)
    have hx : x ∈ (allN 4 t0 S).map tg := ded_sub ((sortS_perm _).mem_iff.mp mx)
    refine byEA (List.mem_map.mp hx) fun t mt et => ?_
    subst et
    exact EvIfs.one (EvT.not (b := true) (EvT.val (Ev.b (Ev.call T.toTab.O (by rfl) (c_round (k := k + 6) T'.toTab8 (L.rnd t mt)) ⟨_, _, _, T'.toTab8.round⟩ (.cons (Ev.name (by rfl)) .nil))) TruR.bool))
  let cnt : List Nat := [0, 1, 2, 3, 4].map fun n => (laterOf S n).length
  have hlat : ∀ F : List (Nat × Nat), F.length = 4 → ∀ n, (laterOf F n).length ≤ 4 := fun F hF n => Nat.le_trans (List.length_filter_le _ _) (Nat.le_of_eq hF)
  have cor := c_orders (k := k + 6) T'.toTab7 (l := cnt) fun n mn => by
    refine byEA (List.mem_map.mp mn) fun i mi e => ?_
    have := hlat S rfl i
    omega
  have hcq : CmpR B (k + 9) .NotEq (.int ((sl R).length : Nat)) (.int (ordN cnt : Nat)) false := by
    have h := CmpR.ne_int (B := B) (k := k + 9) (a := ((sl R).length : Nat)) (b := (ordN cnt : Nat))
    have e : (sl R).length = ordN cnt := by rw [sl_len, hRl]; exact L.cnt
    rw [e] at h ⊢
    rw [bne_self_eq_false] at h
    exact h
  refine Ex.cons (Γ₁ := G6) (Ex1.ife (c := false) (EvT.cmp (Ev.b (Ev.blt T.toTab.O (T.toTab.blt _ _ (by rfl)) (by rfl) (.cons (EvB.sh (by rfl)) .nil) (BltR.lenList (by rw [sl_len, hRl]; omega)))) (Ev.b (Ev.call T.toTab.O (by rfl) cor ⟨_, _, _, T'.toTab7.orders⟩ (.cons (EvF.ev (EvF.comp (cx := true) (ds := nl [0, 1, 2, 3, 4]) T.toTab.O (EvI.b (EvI.range1 T.toTab.O (T.toTab.blt _ _ (by rfl)) (by rfl) (n := 5) (EvLB.cons (Ev.cint.b) .nil) (by decide) (by decide))) (by exact ScOk.of (by rfl) (by rfl) (by rfl) (by intros; rfl) (by intros; rfl)) (by rfl) (CompR.map (fun n : Nat => D.int (n : Int)) (fun n => .int ((laterOf S n).length : Nat)) [0, 1, 2, 3, 4] fun n mn => ?_) (by show 5 ≤ sizeLine; decide) (by intros; rfl))) .nil))) hcq) (fun hb => nomatch hb) (fun _ => .nil)) ?_
  · have hz : (pl (laterOf S n)).length ≤ sizeLine := by rw [pl_len]; have := hlat S rfl n; omega
    have e : (laterOf S n).length = (pl (laterOf S n)).length := (pl_len _).symm
    rw [e]
    exact Ev.blt T.toTab.O (T.toTab.blt _ _ (by rfl)) (by rfl) (.cons (Ev.b (EvF.ev (EvF.comp (cx := false) (ds := pl S) T.toTab.O (EvIB.list T.toTab.O (EvB.sh (by rfl))) (by exact ScOk.of (by rfl) (by rfl) (by rfl) (by intros; rfl) (by intros; rfl)) (by rfl) (CompR.of stD (fun q => decide (n = q.1 ∨ n = q.2)) stD S (fun q mq => EvIfs.one (EvT.cmp (EvB.sh (by rfl)) (EvB.sh (by rfl)) in_step)) (fun q mq _ => Ev.name (by rfl))) hz (by intros; rfl)))) .nil) (BltR.lenList hz)
  have hF1 : F1.length = 4 := by show (o1.map _).length = 4; rw [List.length_map, L.ok1.len]
  have hF2 : F2.length = 4 := by show (o2.map _).length = 4; rw [List.length_map, L.ok2.len]
  refine Ex.cons (Γ₁ := G6 ++ ([("rows", .own none (.list [.list (rowD (rowsOf F1)), .list (rowD (rowsOf F2))]))] : G)) (Ex1.assignC (cx := true) (ds := [F1, F2].map fun F => .list (pl F)) (out := [F1, F2].map fun F => .list (rowD (rowsOf F))) T.toTab.O (EvIB.list T.toTab.O (Ev.b (EvF.ev (EvF.list T.toTab.O (.cons (Ev.name (by rfl)) (.cons (Ev.name (by rfl)) .nil)) (by show 2 ≤ sizeLine; decide))))) (by exact ScOk.of (by rfl) (by rfl) (by rfl) (by intros; rfl) (by intros; rfl)) (by rfl) (CompR.map (fun F : List (Nat × Nat) => D.list (pl F)) _ [F1, F2] fun F mF => ?_) (by show 2 ≤ sizeLine; decide) (.inl (by rfl)) (by intros; rfl) (fun env eo => swapsC (by rfl) (by rfl) (by rfl) env eo)) ?_
  · have hF : F.length = 4 := by
      rcases List.mem_cons.mp mF with rfl | mF
      · exact hF1
      · rw [List.mem_singleton.mp mF]; exact hF2
    refine EvF.ev (EvF.comp (cx := true) (ds := nl [0, 1, 2, 3, 4]) T.toTab.O (EvI.b (EvI.range1 T.toTab.O (T.toTab.blt _ _ (by rfl)) (by rfl) (n := 5) (EvLB.cons (Ev.cint.b) .nil) (by decide) (by decide))) (by exact ScOk.of (by rfl) (by rfl) (by rfl) (by intros; rfl) (by intros; rfl)) (by rfl) (CompR.map (fun n : Nat => D.int (n : Int)) (fun n => .list (pl (laterOf F n))) [0, 1, 2, 3, 4] fun n mn => ?_) (by show 5 ≤ sizeLine; decide) (by intros; rfl))
    have hz : (pl (laterOf F n)).length ≤ sizeLine := by rw [pl_len]; have := hlat F hF n; omega
    exact EvF.ev (EvF.comp (cx := false) (ds := pl F) T.toTab.O (EvIB.list T.toTab.O (EvB.sh (by rfl))) (by exact ScOk.of (by rfl) (by rfl) (by rfl) (by intros; rfl) (by intros; rfl)) (by rfl) (CompR.of stD (fun q => decide (n = q.1 ∨ n = q.2)) stD F (fun q mq => EvIfs.one (EvT.cmp (EvB.sh (by rfl)) (EvB.sh (by rfl)) in_step)) (fun q mq _ => Ev.name (by rfl))) hz (by intros; rfl))
  let G7 : G := G6 ++ ([("rows", .own none (.list [.list (rowD (rowsOf F1)), .list (rowD (rowsOf F2))]))] : G)
  let t2 := doneN t0 F2
  have hbb : (!(decide (rowsOf F1 = rowsOf F2) == (tg t1 == tg t2))) = false := by
    have h : rowsOf F1 = rowsOf F2 ↔ t1 = t2 := L.iff_
    by_cases q : t1 = t2
    · rw [decide_eq_true (h.mpr q), q, beq_self_eq_true]; rfl
    · have q2 : (tg t1 == tg t2) = false := by
        rw [beq_eq_false_iff_ne]; exact fun e => q (tg_inj e)
      rw [decide_eq_false (fun e => q (h.mp e)), q2]; rfl
  refine Ex.cons (Γ₁ := G7) (Ex1.ife (c := false) (EvT.cmp (d₁ := .bool (decide (rowsOf F1 = rowsOf F2))) (d₂ := .bool (tg t1 == tg t2)) (Ev.b (Ev.cmp (d₁ := .list (rowD (rowsOf F1))) (d₂ := .list (rowD (rowsOf F2))) (Ev.b (Ev.sub (EvB.own (by rfl)) (Ev.b Ev.cint) (SubR.list (by decide) (by decide) (by rfl)))) (Ev.b (Ev.sub (EvB.own (by rfl)) (Ev.b Ev.cint) (SubR.list (by decide) (by decide) (by rfl)))) (CmpR.eq_list (sims_rows _ _) (by rw [decide_eq_true_iff]; exact ⟨fun e => by rw [e], rowD_inj⟩) (Nat.lt_of_le_of_lt (deps_rows _) (by decide))))) (Ev.b (Ev.cmp (d₁ := .str (tg t1)) (d₂ := .str (tg t2)) (EvB.sh (by rfl)) (Ev.b (Ev.call T.toTab.O (by rfl) (c_done (k := k + 6) T'.toTab7 ht0 so2) ⟨_, _, _, T'.toTab7.done⟩ (.cons (c0 _ _ _ _) (.cons (Ev.name (by rfl)) .nil)))) CmpR.eq_str)) (hbb ▸ CmpR.ne_bool)) (fun hb => nomatch hb) (fun _ => .nil)) ?_
  refine Ex.weak (Ex.stop (Ex1.ret (d := .bool true) (Ev.call T.toTab.O (by rfl) (c_read (k := k + 1) T' L.read) ⟨_, _, _, T'.read⟩ (.cons (Ev.name (by rfl)) (.cons (Ev.name (by rfl)) (.cons (Ev.name (by rfl)) .nil))))) (by simp)) (fun y s hy => by cases hy)
end Jv.L2
namespace Jv.L2
open PySem PyProof.Rows PySem.Builtin PySem.Builtin.Str
noncomputable abbrev cs (x : Str) : List Nat := x.cps.toList
theorem cs_ext {x y : Str} (h : cs x = cs y) : x = y := Str.cps_inj h
theorem cs_app (x y : Str) : cs (x ++ y) = cs x ++ cs y := by
  show (x.cps ++ y.cps).toList = _
  simp
theorem slash_is : slash = ⟨#[47]⟩ := by decide
theorem cs_slash : cs slash = [47] := by decide
theorem cs_len (x : Str) : (cs x).length = x.length := by simp [cs, Str.length]
theorem cs_empty : cs ("" : Str) = [] := by decide
structure GN (s : Str) : Prop where
  ne : cs s ≠ []
  ns : 47 ∉ cs s
  nd : s ≠ curdir
noncomputable def rl : List Str → List Nat
  | [] => []
  | c :: l => 47 :: (cs c ++ rl l)
noncomputable def rend (l : List Str) : Str := if l = [] then slash else ⟨(rl l).toArray⟩
theorem rl_app : ∀ a b : List Str, rl (a ++ b) = rl a ++ rl b
  | [], _ => rfl
  | c :: a, b => by simp [rl, rl_app a b]
theorem cs_rend {l : List Str} (h : l ≠ []) : cs (rend l) = rl l := by unfold rend; rw [if_neg h]
theorem rend_nil : rend [] = slash := rfl
theorem rl_ne {l : List Str} (h : l ≠ []) : rl l ≠ [] := by
  cases l with
  | nil => exact absurd rfl h
  | cons c l => simp [rl]
theorem join_cs : ∀ (l : List Str), l ≠ [] → cs (Str.join slash ("" :: l)) = rl l
  | [], h => absurd rfl h
  | [c], _ => by
    show cs (("" : Str) ++ slash ++ Str.join slash [c]) = _
    rw [cs_app, cs_app, cs_slash, cs_empty]
    simp [rl, Str.join]
  | c :: d :: l, _ => by
    have IH := join_cs (d :: l) (by simp)
    have e : cs (Str.join slash ("" :: d :: l)) = 47 :: cs (Str.join slash (d :: l)) := by
      show cs (("" : Str) ++ slash ++ Str.join slash (d :: l)) = _
      rw [cs_app, cs_app, cs_slash, cs_empty]; rfl
    rw [e] at IH
    show cs (("" : Str) ++ slash ++ (c ++ slash ++ Str.join slash (d :: l))) = _
    rw [cs_app, cs_app, cs_app, cs_app, cs_slash, cs_empty]
    simp only [rl]
    simp only [rl] at IH
    simp only [List.nil_append, List.cons_append, List.append_assoc, IH]
noncomputable def pieces (l : List Str) : List Str := if l = [] then ["", ""] else "" :: l
theorem rend_join (l : List Str) : rend l = Str.join slash (pieces l) := by
  unfold pieces
  by_cases h : l = []
  · subst h; decide
  · rw [if_neg h]
    exact cs_ext (by rw [join_cs l h, cs_rend h])
theorem join_inj : ∀ (a b : List Str), a ≠ [] → b ≠ [] → (∀ x, x ∈ a → 47 ∉ cs x) → (∀ x, x ∈ b → 47 ∉ cs x) → Str.join slash a = Str.join slash b → a = b := by
  have free : ∀ (p q r s : List Nat), 47 ∉ p → 47 ∉ q → p ++ 47 :: r = q ++ 47 :: s → p = q ∧ r = s := by
    intro p
    induction p with
    | nil =>
      intro q r s _ hq e
      cases q with
      | nil => simpa using e
      | cons y q => simp at e; exact absurd e.1 (by simp at hq; exact fun h => hq.1 h)
    | cons x p IH =>
      intro q r s hp hq e
      cases q with
      | nil => simp at e; exact absurd e.1.symm (by simp at hp; exact fun h => hp.1 h)
      | cons y q =>
        simp at e hp hq
        refine byA (IH q r s hp.2 hq.2 e.2) fun h1 h2 => ?_
        exact ⟨by rw [e.1, h1], h2⟩
  intro a
  induction a with
  | nil => intro b h; exact absurd rfl h
  | cons x a IH =>
    intro b _ hb fa fb e
    cases b with
    | nil => exact absurd rfl hb
    | cons y b =>
      have fx := fa x (.head _)
      have fy := fb y (.head _)
      cases a with
      | nil =>
        cases b with
        | nil =>
          have e' : x = y := e
          rw [e']
        | cons z b =>
          have e2 : x = y ++ slash ++ Str.join slash (z :: b) := e
          have : 47 ∈ cs x := by rw [e2, cs_app, cs_app, cs_slash]; simp
          exact absurd this fx
      | cons w a =>
        cases b with
        | nil =>
          have e2 : x ++ slash ++ Str.join slash (w :: a) = y := e
          have : 47 ∈ cs y := by rw [← e2, cs_app, cs_app, cs_slash]; simp
          exact absurd this fy
        | cons z b =>
          have e2 : x ++ slash ++ Str.join slash (w :: a) = y ++ slash ++ Str.join slash (z :: b) := e
          have e3 := congrArg cs e2
          rw [cs_app, cs_app, cs_app, cs_app, cs_slash] at e3
          simp only [List.append_assoc, List.singleton_append] at e3
          refine byA (free _ _ _ _ fx fy e3) fun h1 h2 => ?_
          rw [cs_ext h1, IH (z :: b) (by simp) (by simp) (fun v m => fa v (.tail _ m)) (fun v m => fb v (.tail _ m)) (cs_ext h2)]
theorem split_rend {l : List Str} (h : ∀ x, x ∈ l → 47 ∉ cs x) : Txt.split (rend l) slash = pieces l := by
  have h1 := StrLaws.join_split (rend l) slash
  rw [rend_join] at h1
  have h2 : ∀ x, x ∈ Txt.split (rend l) slash → 47 ∉ cs x := by rw [slash_is]; exact StrLaws.split_free (rend l) 47
  have h3 := split_pos (rend l) slash
  rw [← rend_join] at h1
  refine join_inj _ _ (fun e => by rw [e] at h3; exact absurd h3 (by decide)) (by unfold pieces; split <;> simp) h2 (fun x m => ?_) (by rw [← rend_join]; exact h1)
  unfold pieces at m
  split at m
  · simp at m; subst m; rw [cs_empty]; simp
  · rcases List.mem_cons.mp m with rfl | m
    · rw [cs_empty]; simp
    · exact h x m
theorem keep_good {c : Str} (g : GN c) : keepC c = true := by
  unfold keepC
  have h1 : c.length ≠ 0 := fun e => g.ne (by rw [← cs_len] at e; exact List.length_eq_zero_iff.mp e)
  simp [h1, g.nd]
theorem keep_empty : keepC "" = false := by decide
theorem parts_rend {l : List Str} (h : ∀ x, x ∈ l → GN x) : parts (rend l) = l := by
  unfold parts
  rw [split_rend fun x m => (h x m).ns]
  unfold pieces
  split
  · rename_i e; subst e; decide
  · rw [List.filter_cons_of_neg (by rw [keep_empty]; simp)]
    exact List.filter_eq_self.mpr fun x m => keep_good (h x m)
theorem rend_inj {a b : List Str} (ha : ∀ x, x ∈ a → GN x) (hb : ∀ x, x ∈ b → GN x) (e : rend a = rend b) : a = b := by
  rw [← parts_rend ha, ← parts_rend hb, e]
theorem slash_join (l : List Str) : slash ++ Txt.join slash l = rend l := by
  show slash ++ glued slash l = rend l
  rw [StrLaws.glued_eq_join]
  cases l with
  | nil => decide
  | cons c l =>
    refine cs_ext ?_
    rw [cs_rend (by simp), ← join_cs (c :: l) (by simp)]
    show _ = cs (("" : Str) ++ slash ++ Str.join slash (c :: l))
    rw [cs_app, cs_app, cs_app, cs_empty]; rfl
theorem commS_rend {L : List (List Str)} (h : ∀ l, l ∈ L → ∀ x, x ∈ l → GN x) : commS (L.map rend) = rend (commonL L) := by
  unfold commS
  rw [slash_join, List.map_map]
  congr 1
  congr 1
  have e : ∀ l, l ∈ L → (parts ∘ rend) l = (fun x => x) l := fun l m => parts_rend (h l m)
  rw [List.map_congr_left e, List.map_id'']
  intro _; rfl
theorem common_mem {L : List (List Str)} (h0 : L ≠ []) {a : List Str} (m : a ∈ L) (h : ∀ l, l ∈ L → a <+: l) : commonL L = a := by
  have h1 := commonL_pre m
  have h2 := commonL_of_pre h0 h
  exact h1.eq_of_length (Nat.le_antisymm h1.length_le h2.length_le)
theorem comm_two {a b : List Str} (ha : ∀ x, x ∈ a → GN x) (hb : ∀ x, x ∈ b → GN x) : (commS [rend a, rend b] == rend a) = true ↔ a <+: b := by
  have e : commS [rend a, rend b] = rend (commonL [a, b]) := commS_rend (L := [a, b]) fun l m => by
    simp at m
    rcases m with rfl | rfl
    · exact ha
    · exact hb
  rw [e, beq_iff_eq]
  have hp := commonL_pre (l := [a, b]) (x := b) (by simp)
  have hp1 := commonL_pre (l := [a, b]) (x := a) (by simp)
  constructor
  · intro q
    have := rend_inj (a := commonL [a, b]) (b := a) (fun x m => ha x (hp1.subset m)) ha q
    rw [this] at hp; exact hp
  · intro q
    rw [common_mem (a := a) (by simp) (by simp) fun l m => by
      simp at m
      rcases m with rfl | rfl
      · exact List.prefix_refl _
      · exact q]
theorem starts_slash {c : Str} (h : 47 ∉ cs c) : Txt.startswith c slash = false := by
  cases e : Txt.startswith c slash
  · rfl
  · unfold Txt.startswith at e
    rw [Bool.and_eq_true] at e
    have := e.2
    rw [StrLaws.subAt_eq, beq_iff_eq] at this
    have h2 : 47 ∈ (c.cps.toList.drop 0).take slash.length := by rw [this]; show 47 ∈ cs slash; rw [cs_slash]; simp
    have h3 := List.mem_of_mem_take h2
    rw [List.drop_zero] at h3
    exact absurd h3 h
theorem rl_last : ∀ {l : List Str}, (∀ x, x ∈ l → GN x) → l ≠ [] → ∃ (p : List Nat) (z : Nat), rl l = p ++ [z] ∧ z ≠ 47
  | [], _, h => absurd rfl h
  | [c], h, _ => by
    have g := h c (.head _)
    refine ⟨47 :: (cs c).dropLast, (cs c).getLast g.ne, ?_, fun e => g.ns (e ▸ List.getLast_mem g.ne)⟩
    show 47 :: (cs c ++ []) = _
    rw [List.append_nil, List.cons_append, List.dropLast_concat_getLast]
  | c :: d :: l, h, _ => by
    refine byEEA (rl_last (l := d :: l) (fun x m => h x (.tail _ m)) (by simp)) fun p z e hz => ?_
    refine ⟨47 :: (cs c ++ p), z, ?_, hz⟩
    show 47 :: (cs c ++ rl (d :: l)) = _
    rw [e]; simp
theorem ends_slash {l : List Str} (h : ∀ x, x ∈ l → GN x) (h0 : l ≠ []) : Txt.endswith (rend l) slash = false := by
  cases e : Txt.endswith (rend l) slash
  · rfl
  · unfold Txt.endswith at e
    rw [Bool.and_eq_true] at e
    have := e.2
    rw [StrLaws.subAt_eq, beq_iff_eq] at this
    refine byEEA (rl_last h h0) fun p z e2 hz => ?_
    have e3 : (rend l).cps.toList = p ++ [z] := by rw [← e2]; exact cs_rend h0
    have e4 : (rend l).length = p.length + 1 := by rw [← cs_len]; show (rend l).cps.toList.length = _; rw [e3]; simp
    have e5 : slash.length = 1 := rfl
    rw [e3, e4, e5] at this
    have e6 : slash.cps.toList = [47] := cs_slash
    rw [e6] at this
    simp at this
    exact absurd this hz
theorem join_rend {l : List Str} {c : Str} (h : ∀ x, x ∈ l → GN x) (g : GN c) : joinS (rend l) c = rend (l ++ [c]) := by
  have hl : (rend l).length ≠ 0 := by
    rw [← cs_len]
    by_cases e : l = []
    · subst e; decide
    · rw [cs_rend e]; exact fun q => rl_ne e (List.length_eq_zero_iff.mp q)
  unfold joinS
  rw [starts_slash g.ns, if_neg (by simp [hl])]
  by_cases e : l = []
  · subst e
    rw [if_pos (by decide)]
    refine cs_ext ?_
    rw [cs_app, cs_rend (l := [] ++ [c]) (by simp)]
    rw [rend_nil, cs_slash]; simp [rl]
  · rw [if_neg (by rw [ends_slash h e]; simp)]
    refine cs_ext ?_
    rw [cs_app, cs_app, cs_rend e, cs_rend (by simp), rl_app, cs_slash]; simp [rl]
theorem rl_snoc (l : List Str) (c : Str) : rl (l ++ [c]) = rl l ++ 47 :: cs c := by rw [rl_app]; simp [rl]
theorem at_iff (x : Str) (i : Nat) : StrLaws.At x slash x.length i ↔ (cs x)[i]? = some 47 := by
  unfold StrLaws.At
  rw [StrLaws.subAt_eq]
  have e5 : slash.length = 1 := rfl
  have e6 : slash.cps.toList = [47] := cs_slash
  rw [e5, e6, ← cs_len, beq_iff_eq]
  show _ ∧ ((cs x).drop i).take 1 = [47] ↔ _
  constructor
  · rintro ⟨h1, h2⟩
    have h3 : i < (cs x).length := by omega
    rw [List.drop_eq_getElem_cons h3] at h2
    simp at h2
    rw [List.getElem?_eq_getElem h3]
    simpa using h2
  · intro h
    refine byE (List.getElem?_eq_some_iff.mp h) fun h3 h4 => ?_
    refine ⟨by omega, ?_⟩
    rw [List.drop_eq_getElem_cons h3, h4]; rfl
theorem rfind_at {x : Str} {p q : List Nat} (e : cs x = p ++ 47 :: q) (h : 47 ∉ q) : Txt.rfind x slash = p.length := by
  have hp : (cs x)[p.length]? = some 47 := by rw [e]; simp
  have hq : ∀ k, p.length < k → (cs x)[k]? ≠ some 47 := fun k hk q' => by
    rw [e, List.getElem?_append_right (by omega)] at q'
    obtain ⟨m, hm⟩ : ∃ m, k - p.length = m + 1 := ⟨k - p.length - 1, by omega⟩
    rw [hm, List.getElem?_cons_succ] at q'
    exact h (List.mem_of_getElem? q')
  unfold Txt.rfind
  rcases StrLaws.last_spec x slash with ⟨_, h2⟩ | ⟨i, h1, h2, h3⟩
  · exact absurd ((at_iff x _).mpr hp) (h2 _)
  · rw [h1]
    have h2' := (at_iff x i).mp h2
    show ((i : Nat) : Int) = p.length
    by_cases hlt : p.length < i
    · exact absurd h2' (hq i hlt)
    · by_cases hgt : i < p.length
      · exact absurd ((at_iff x _).mpr hp) (h3 _ hgt)
      · congr 1; omega
theorem cut_drop {α : Type} (l : List α) {n : Nat} (h : n ≤ l.length) : cut l (some (n : Int)) none = l.drop n := by
  unfold cut clip
  simp only
  rw [if_neg (by omega), List.take_length]
  congr 1; omega
theorem head_at {x : Str} {p q : List Nat} (e : cs x = p ++ 47 :: q) (h : 47 ∉ q) : headI x = ((p.length + 1 : Nat) : Int) := by
  unfold headI; rw [rfind_at e h]; rfl
theorem base_at {x : Str} {p : List Nat} {c : Str} (e : cs x = p ++ 47 :: cs c) (h : 47 ∉ cs c) : baseS x = c := by
  refine cs_ext ?_
  unfold baseS cutS
  rw [head_at e h]
  show cut (cs x) _ _ = _
  rw [cut_drop _ (by rw [e]; simp), e]
  rw [show p ++ 47 :: cs c = (p ++ [47]) ++ cs c by simp, List.drop_left' (by simp)]
theorem hd_at {x : Str} {p : List Nat} {c : Str} (e : cs x = p ++ 47 :: cs c) (h : 47 ∉ cs c) : cs (hd x) = p ++ [47] := by
  unfold hd cutS
  rw [head_at e h]
  show cut (cs x) _ _ = _
  rw [cut_take _ (by rw [e]; simp), e]
  rw [show p ++ 47 :: cs c = (p ++ [47]) ++ cs c by simp, List.take_left' (by simp)]
theorem rstrip_at {x : Str} {p : List Nat} {z : Nat} (e : cs x = p ++ [z] ++ [47]) (h : z ≠ 47) : cs (Txt.rstripChars x slash) = p ++ [z] := by
  unfold Txt.rstripChars
  rw [stripBy_eq]
  show (strSub _ _ _).cps.toList = _
  rw [StrLaws.strSub_toList]
  have e1 : stripLo (fun c => slash.cps.contains c) false x = 0 := rfl
  have hc : ∀ c, slash.cps.contains c = decide (c = 47) := fun c => by
    rw [slash_is]; simp
  have e2 : stripHi slash.cps.contains true x (stripLo slash.cps.contains false x) = x.length - 1 := by
    show (if true = true then x.length - ((x.cps.toList.drop 0).reverse.takeWhile slash.cps.contains).length else x.length) = _
    rw [if_pos rfl, List.drop_zero]
    show x.length - ((cs x).reverse.takeWhile slash.cps.contains).length = _
    rw [e]
    have ef : slash.cps.contains = fun c => decide (c = 47) := funext hc
    rw [ef]
    simp [h]
  rw [e2]
  have e3 : stripLo slash.cps.contains false x = 0 := rfl
  rw [e3, List.drop_zero]
  show (cs x).take (x.length - 1 - 0) = _
  rw [← cs_len, e, List.take_left' (by simp)]
theorem base_rend {l : List Str} {c : Str} (g : GN c) : baseS (rend (l ++ [c])) = c := base_at (p := rl l) (by rw [cs_rend (by simp), rl_snoc]) g.ns
theorem dir_rend {l : List Str} {c : Str} (h : ∀ x, x ∈ l → GN x) (g : GN c) : dirS (rend (l ++ [c])) = rend l := by
  have e := hd_at (x := rend (l ++ [c])) (p := rl l) (c := c) (by rw [cs_rend (by simp), rl_snoc]) g.ns
  unfold dirS
  by_cases h0 : l = []
  · subst h0
    have e1 : hd (rend ([] ++ [c])) = slash := cs_ext (by rw [e, cs_slash]; rfl)
    rw [e1]
    decide
  · refine byEEA (rl_last h h0) fun p z e2 hz => ?_
    rw [e2] at e
    have hne : (hd (rend (l ++ [c])) != Txt.mul slash ((hd (rend (l ++ [c]))).length : Nat)) = true := by
      rw [bne_iff_ne]
      intro q
      have h1 : ∀ n : Nat, ∀ v, v ∈ cs (Txt.mul slash n) → v = 47 := by
        intro n v hv
        unfold Txt.mul at hv
        split at hv
        · exact absurd hv (by show v ∉ cs Str.empty; simp [cs, Str.empty])
        · split at hv
          · rw [cs_slash] at hv; simpa using hv
          · have h2 : ∀ (k : Nat) (a : Array Nat), (∀ v ∈ a.toList, v = 47) → ∀ v ∈ ((List.replicate k slash.cps).foldl (· ++ ·) a).toList, v = 47 := by
              intro k
              induction k with
              | zero => intro a ha; simpa using ha
              | succ k IH =>
                intro a ha
                rw [List.replicate_succ, List.foldl_cons]
                refine IH _ fun v hv => ?_
                rw [Array.toList_append] at hv
                rcases List.mem_append.mp hv with hv | hv
                · exact ha v hv
                · have : v ∈ cs slash := hv
                  rw [cs_slash] at this; simpa using this
            exact h2 _ #[] (by simp) v hv
      have h2 := h1 _ z (by rw [← q, e]; simp)
      exact hz h2
    have hl : ((hd (rend (l ++ [c]))).length != 0) = true := by
      rw [← cs_len, e]; simp
    rw [if_pos (by rw [hl, hne]; rfl)]
    refine cs_ext ?_
    rw [rstrip_at e hz, cs_rend h0, e2]
end Jv.L2
namespace Jv.L2
open PySem PyProof.Rows PySem.Builtin PySem.Builtin.Str
structure Path (l : List Str) : Prop where
  gn : ∀ x, x ∈ l → GN x
  short : ∀ x, x ∈ l → x.length ≤ 100
  len : l.length ≤ 6
theorem rl_len : ∀ {l : List Str}, (∀ x, x ∈ l → x.length ≤ 100) → (rl l).length ≤ 101 * l.length
  | [], _ => by simp [rl]
  | c :: l, h => by
    have IH := rl_len (l := l) fun x m => h x (.tail _ m)
    have := h c (.head _)
    simp only [rl, List.length_cons, List.length_append, cs_len]
    omega
theorem Path.rlen {l : List Str} (p : Path l) : (rend l).length ≤ 650 := by
  rw [← cs_len]
  by_cases h : l = []
  · subst h; decide
  · rw [cs_rend h]
    have := rl_len p.short
    have := p.len
    omega
theorem rend_abs (l : List Str) : Txt.startswith (rend l) slash = true := by
  have e : ∃ q, cs (rend l) = 47 :: q := by
    cases l with
    | nil => exact ⟨[], cs_slash⟩
    | cons c l => exact ⟨_, cs_rend (by simp)⟩
  refine byE (e) fun q e => ?_
  unfold Txt.startswith
  have e5 : slash.length = 1 := rfl
  have e6 : slash.cps.toList = [47] := cs_slash
  rw [StrLaws.subAt_eq, e5, e6, ← cs_len, e]
  show (_ && ((cs (rend l)).drop 0).take 1 == [47]) = true
  rw [e]; simp
theorem pieces_len (x : Str) (cuts : List Nat) (n : Nat) : (partsBetween x cuts n).length = cuts.length + 1 := by
  unfold partsBetween
  simp
theorem cpok {L : List (List Str)} (h0 : L ≠ []) (hl : L.length ≤ 1000) (h : ∀ l, l ∈ L → Path l) : CpOk (L.map rend) := by
  have big : (100000 : Nat) ≤ sizeLine := by decide
  have hp : ∀ p, p ∈ L.map rend → ∃ l, l ∈ L ∧ Path l ∧ p = rend l := fun p m => by
    (refine byEA (List.mem_map.mp m) fun l ml hq1 => ?_; subst hq1)
    exact ⟨l, ml, h l ml, rfl⟩
  refine byE (List.exists_mem_of_ne_nil L h0) fun l₀ m₀ => ?_
  have e : (L.map rend).map parts = L := by
    rw [List.map_map]
    have e : ∀ l, l ∈ L → (parts ∘ rend) l = (fun x => x) l := fun l m => parts_rend (h l m).gn
    rw [List.map_congr_left e, List.map_id'']
    intro _; rfl
  have hc := commonL_pre m₀
  have pc : Path (commonL L) := ⟨fun x m => (h l₀ m₀).gn x (hc.subset m), fun x m => (h l₀ m₀).short x (hc.subset m), Nat.le_trans hc.length_le (h l₀ m₀).len⟩
  refine ⟨by simpa using h0, by simpa using hl, fun p m => ?_, fun p m => ?_, fun p m => ?_, fun p m => ?_, fun p m => ?_, ?_, ?_⟩
  · (refine byEAA (hp p m) fun l _ _ hq2 => ?_; subst hq2); exact rend_abs l
  · (refine byEAA (hp p m) fun l _ pl hq3 => ?_; subst hq3); have := pl.rlen; omega
  · (refine byEAA (hp p m) fun l _ pl hq4 => ?_; subst hq4)
    rw [pieces_len]
    have := StrLaws.occ_length_le (rend l) slash 0 (rend l).length ((rend l).length + 1)
    have := pl.rlen; omega
  · (refine byEAA (hp p m) fun l _ pl hq5 => ?_; subst hq5)
    have := split_le (rend l) slash
    have := pl.rlen; omega
  · (refine byEAA (hp p m) fun l _ pl hq6 => ?_; subst hq6)
    intro c mc
    rw [split_rend fun x m => (pl.gn x m).ns] at mc
    unfold pieces at mc
    split at mc
    · simp at mc; subst mc; decide
    · rcases List.mem_cons.mp mc with rfl | mc
      · decide
      · have := pl.short c mc; omega
  · rw [e]
    unfold JoinOk
    have hs : (commonL L).map (·.length) = (commonL L).map (·.length) := rfl
    have e1 := StrLaws.joinTotal slash (commonL L)
    rw [show (commonL L).toArray.foldl (fun x1 x2 => x1 + x2.length + slash.length) 0 = _ from e1]
    have h2 := StrLaws.sumLen_le (B := 100) (commonL L) pc.short
    have h3 := pc.len
    have e5 : slash.length = 1 := rfl
    rw [e5]
    unfold tooLong
    simp
    omega
  · rw [e]
    have := congrArg Str.length (slash_join (commonL L))
    rw [str_len] at this
    have e5 : slash.length = 1 := rfl
    have := pc.rlen
    omega
end Jv.L2
namespace Jv.L2
open PySem PySem.W PySem.Calls PyProof.Rows PySem.Builtin PySem.Builtin.Str
theorem rising_sort {l : List Str} (nd : l.Nodup) : Rising (sortS l) := by
  have h1 := sortS_sorted l
  have h2 : (sortS l).Nodup := (sortS_perm l).nodup_iff.mpr nd
  unfold Rising
  refine (h1.and h2).imp fun {a b} ⟨h, hne⟩ => ?_
  rcases ltS_tri hne with q | q
  · exact q
  · unfold strLe at h
    unfold ltS at q
    simp at h q
    exact absurd q h
theorem rise_notin {x : Str} {Y : List Str} (h : ∀ y, y ∈ Y → ltS x y = true) : x ∉ Y := fun q => by
  have := h x q
  rw [ltS_irrefl] at this; cases this
theorem sldF_spec : ∀ (f : Nat) (X Y : List Str), Rising X → Rising Y → X.length + Y.length < f → (sldF f X Y).1 = X.filter (fun x => decide (x ∉ Y)) ∧ (sldF f X Y).2 = Y.filter (fun y => decide (y ∉ X))
  | 0, _, _, _, _, h => by omega
  | _ + 1, [], Y, _, _, _ => by
    refine ⟨rfl, ?_⟩
    show Y = _
    exact (List.filter_eq_self.mpr (by simp)).symm
  | _ + 1, x :: X, [], _, _, _ => by
    refine ⟨?_, rfl⟩
    show x :: X = _
    exact (List.filter_eq_self.mpr (by simp)).symm
  | f + 1, x :: X, y :: Y, hx, hy, hl => by
    have hx' := List.pairwise_cons.mp hx
    have hy' := List.pairwise_cons.mp hy
    simp only [List.length_cons] at hl
    unfold sldF
    by_cases h1 : ltS x y = true
    · rw [if_pos h1]
      refine byA (sldF_spec f X (y :: Y) hx'.2 hy (by simp only [List.length_cons]; omega)) fun e1 e2 => ?_
      have hn : x ∉ y :: Y := rise_notin fun z mz => by
        rcases List.mem_cons.mp mz with rfl | mz
        · exact h1
        · exact ltS_trans h1 (hy'.1 z mz)
      refine ⟨?_, ?_⟩
      · rw [List.filter_cons_of_pos (by simpa using hn)]; simp only; rw [e1]
      · simp only
        rw [e2]
        refine List.filter_congr fun z mz => ?_
        have : z ≠ x := by rintro rfl; exact hn mz
        simp [this]
    · rw [if_neg h1]
      by_cases h2 : ltS y x = true
      · rw [if_pos h2]
        refine byA (sldF_spec f (x :: X) Y hx hy'.2 (by simp only [List.length_cons]; omega)) fun e1 e2 => ?_
        have hn : y ∉ x :: X := rise_notin fun z mz => by
          rcases List.mem_cons.mp mz with rfl | mz
          · exact h2
          · exact ltS_trans h2 (hx'.1 z mz)
        refine ⟨?_, ?_⟩
        · simp only
          rw [e1]
          refine List.filter_congr fun z mz => ?_
          have : z ≠ y := by rintro rfl; exact hn mz
          simp [this]
        · rw [List.filter_cons_of_pos (by simpa using hn)]; simp only; rw [e2]
      · rw [if_neg h2]
        obtain rfl := eq_of_nlt h1 h2
        refine byA (sldF_spec f X Y hx'.2 hy'.2 (by omega)) fun e1 e2 => ?_
        refine ⟨?_, ?_⟩
        · rw [List.filter_cons_of_neg (by simp), e1]
          refine List.filter_congr fun z mz => ?_
          have : z ≠ x := by rintro rfl; exact rise_notin hx'.1 mz
          simp [this]
        · rw [List.filter_cons_of_neg (by simp), e2]
          refine List.filter_congr fun z mz => ?_
          have : z ≠ x := by rintro rfl; exact rise_notin hy'.1 mz
          simp [this]
theorem sld_spec {X Y : List Str} (hx : Rising X) (hy : Rising Y) : (sldS X Y).1 = X.filter (fun x => decide (x ∉ Y)) ∧ (sldS X Y).2 = Y.filter (fun y => decide (y ∉ X)) := sldF_spec _ X Y hx hy (Nat.lt_succ_self _)
theorem fmodR (a : Int) {b : Int} (h : 0 < b) : 0 ≤ a.fmod b ∧ a.fmod b < b := ⟨fmodNN a h, Int.fmod_lt_of_pos a h⟩
noncomputable def gnB (s : Str) : Bool := !(cs s).isEmpty && !((cs s).contains 47) && s != curdir
theorem gn_of {s : Str} (h : gnB s = true) : GN s := by
  unfold gnB at h
  simp only [Bool.and_eq_true, Bool.not_eq_true', bne_iff_ne] at h
  refine ⟨fun e => ?_, fun e => ?_, h.2⟩
  · rw [e] at h; simp at h
  · have := h.1.2
    rw [List.contains_iff_mem.mpr e] at this; cases this
noncomputable def okText (n : Nat) (t : Str) : Bool := gnB (esc (forms n) t) && (toldS n t == esc (forms n) t) && escOk (forms n) t && t.cps.all (· < 128) && JoinOk "" (toldRow n t) && decide ((toldRow n t).length ≤ 100) && decide ((esc (forms n) t).length ≤ 100)
theorem ok0 : pool.all (okText 0) = true := by decide +kernel
theorem ok1 : pool.all (okText 1) = true := by decide +kernel
theorem ok2 : pool.all (okText 2) = true := by decide +kernel
theorem ok3 : pool.all (okText 3) = true := by decide +kernel
theorem ok4 : pool.all (okText 4) = true := by decide +kernel
theorem un0 : (pool.map (esc (forms 0))).Nodup := by decide +kernel
theorem un1 : (pool.map (esc (forms 1))).Nodup := by decide +kernel
theorem un2 : (pool.map (esc (forms 2))).Nodup := by decide +kernel
theorem un3 : (pool.map (esc (forms 3))).Nodup := by decide +kernel
theorem un4 : (pool.map (esc (forms 4))).Nodup := by decide +kernel
theorem ok_all {n : Nat} (h : n < 5) {t : Str} (m : t ∈ pool) : okText n t = true := by
  match n, h with
  | 0, _ => exact List.all_eq_true.mp ok0 t m
  | 1, _ => exact List.all_eq_true.mp ok1 t m
  | 2, _ => exact List.all_eq_true.mp ok2 t m
  | 3, _ => exact List.all_eq_true.mp ok3 t m
  | 4, _ => exact List.all_eq_true.mp ok4 t m
theorem un_all {n : Nat} (h : n < 5) : (pool.map (esc (forms n))).Nodup := by
  match n, h with
  | 0, _ => exact un0
  | 1, _ => exact un1
  | 2, _ => exact un2
  | 3, _ => exact un3
  | 4, _ => exact un4
noncomputable def ix (c k : Int) : Nat := ((c.fdiv 5 + k).fmod 12).toNat
theorem ix_lt (c k : Int) : ix c k < 12 := by
  have := fmodR (c.fdiv 5 + k) (b := 12) (by decide)
  unfold ix; omega
theorem ix_inj {c j k : Int} (hj : 0 ≤ j ∧ j < 4) (hk : 0 ≤ k ∧ k < 4) (e : ix c j = ix c k) : j = k := by
  have h1 := fmodR (c.fdiv 5 + j) (b := 12) (by decide)
  have h2 := fmodR (c.fdiv 5 + k) (b := 12) (by decide)
  unfold ix at e
  rw [Int.fmod_eq_emod_of_nonneg _ (by decide)] at h1 e
  rw [Int.fmod_eq_emod_of_nonneg _ (by decide)] at h2 e
  omega
theorem text_mem (c k : Int) : textAt c k ∈ pool := by
  have h : ix c k < pool.length := ix_lt c k
  have : textAt c k = pool[ix c k] := by
    show pool.getD (ix c k) "" = _
    simp [h]
  rw [this]; exact List.getElem_mem _
theorem text_inj {n : Nat} (hn : n < 5) {c j k : Int} (hj : 0 ≤ j ∧ j < 4) (hk : 0 ≤ k ∧ k < 4) (e : esc (forms n) (textAt c j) = esc (forms n) (textAt c k)) : j = k := by
  refine ix_inj (c := c) hj hk ?_
  have nd := un_all hn
  have l : (pool.map (esc (forms n))).length = 12 := by rw [List.length_map]; rfl
  have g : ∀ i : Int, (pool.map (esc (forms n)))[ix c i]? = some (esc (forms n) (textAt c i)) := fun i => by
    have h : ix c i < pool.length := ix_lt c i
    rw [List.getElem?_map]
    have : textAt c i = pool[ix c i] := by
      show pool.getD (ix c i) "" = _
      simp [h]
    rw [this, List.getElem?_eq_getElem h]; rfl
  have key : ∀ a b : Nat, a < b → (pool.map (esc (forms n)))[a]? = some (esc (forms n) (textAt c j)) → (pool.map (esc (forms n)))[b]? = some (esc (forms n) (textAt c j)) → False := fun a b hab ha hb => by
    refine byE (List.getElem?_eq_some_iff.mp ha) fun la ea => ?_
    refine byE (List.getElem?_eq_some_iff.mp hb) fun lb eb => ?_
    exact (List.pairwise_iff_getElem.mp nd a b la lb hab) (ea.trans eb.symm)
  have hj' := g j
  have hk' := g k
  rw [← e] at hk'
  rcases Nat.lt_trichotomy (ix c j) (ix c k) with h | h | h
  · exact (key _ _ h hj' hk').elim
  · exact h
  · exact (key _ _ h hk' hj').elim
theorem ok_parts {n : Nat} {t : Str} (h : okText n t = true) : GN (esc (forms n) t) ∧ toldS n t = esc (forms n) t ∧ escOk (forms n) t = true ∧ t.cps.all (· < 128) = true ∧ JoinOk "" (toldRow n t) = true ∧ (toldRow n t).length ≤ 100 ∧ (esc (forms n) t).length ≤ 100 := by
  unfold okText at h
  simp only [Bool.and_eq_true, decide_eq_true_eq, beq_iff_eq] at h
  (refine byA (h) fun hp1 h7 => ?_; (try clear h); obtain ⟨⟨⟨⟨⟨h1, h2⟩, h3⟩, h4⟩, h5⟩, h6⟩ := hp1)
  exact ⟨gn_of h1, h2, h3, h4, h5, h6, h7⟩
end Jv.L2
namespace Jv.L2
open PySem PySem.W PySem.Calls PyProof.Rows PySem.Builtin PySem.Builtin.Str
noncomputable def ptF (ab : List Nat) : Nat → Nat → List Nat
  | 0, _ => []
  | f + 1, n => if n = 0 then [] else ptF ab f (ab.getD n 0) ++ [n]
noncomputable def ptN (ab : List Nat) (n : Nat) : List Nat := ptF ab 5 n
theorem ptF_fuel {ab : List Nat} (a : AbOk ab) : ∀ (f n : Nat), n ≤ f → n < 5 → ptF ab (f + 1) n = ptF ab f n
  | 0, n, h, _ => by obtain rfl : n = 0 := by omega
                     rfl
  | f + 1, n, h, h5 => by
    by_cases h0 : n = 0
    · subst h0; rfl
    · have := a.up n (by omega) h5
      show (if n = 0 then [] else ptF ab (f + 1) (ab.getD n 0) ++ [n]) = (if n = 0 then [] else ptF ab f (ab.getD n 0) ++ [n])
      rw [if_neg h0, if_neg h0, ptF_fuel a f _ (by omega) (by omega)]
theorem ptN_zero (ab : List Nat) : ptN ab 0 = [] := rfl
theorem ptN_step {ab : List Nat} (a : AbOk ab) {n : Nat} (h0 : 0 < n) (h : n < 5) : ptN ab n = ptN ab (ab.getD n 0) ++ [n] := by
  have hu := a.up n h0 h
  show (if n = 0 then [] else ptF ab 4 (ab.getD n 0) ++ [n]) = _
  rw [if_neg (by omega)]
  unfold ptN
  rw [ptF_fuel a 4 _ (by omega) (by omega)]
theorem ptF_mem (ab : List Nat) : ∀ (f n x : Nat), n < 5 → AbOk ab → x ∈ ptF ab f n → 0 < x ∧ x < 5
  | 0, n, x, _, _, m => by cases m
  | f + 1, n, x, h, a, m => by
    unfold ptF at m
    split at m
    · cases m
    · have hu := a.up n (by omega) h
      rcases List.mem_append.mp m with q | q
      · exact ptF_mem ab f _ x (by omega) a q
      · rw [List.mem_singleton.mp q]; omega
theorem ptF_len (ab : List Nat) : ∀ (f n : Nat), (ptF ab f n).length ≤ f
  | 0, n => Nat.le_refl _
  | f + 1, n => by
    unfold ptF
    split
    · simp
    · rw [List.length_append]; exact Nat.succ_le_succ (ptF_len ab f (ab.getD n 0))
noncomputable def nmA (names : List Str) (n : Nat) : Str := names.getD (n - 1) ""
noncomputable def pth (names : List Str) (ab : List Nat) (n : Nat) : List Str := (ptN ab n).map (nmA names)
structure Nms (names : List Str) : Prop where
  len : names.length = 4
  gn : ∀ x, x ∈ names → GN x
  short : ∀ x, x ∈ names → x.length ≤ 100
  inj : ∀ i j, 0 < i → i < 5 → 0 < j → j < 5 → nmA names i = nmA names j → i = j
variable {names : List Str} {ab : List Nat}
theorem nmA_mem (N : Nms names) {n : Nat} (h0 : 0 < n) (h : n < 5) : nmA names n ∈ names := getD_mem' (by rw [N.len]; omega)
theorem pth_path (N : Nms names) (a : AbOk ab) {n : Nat} (h : n < 5) : Path (pth names ab n) := by
  have key : ∀ x, x ∈ pth names ab n → x ∈ names := fun x m => by
    refine byEA (List.mem_map.mp m) fun i mi e => ?_
    have hi := ptF_mem ab 5 n i h a mi
    rw [← e]; exact nmA_mem N hi.1 hi.2
  refine ⟨fun x m => N.gn x (key x m), fun x m => N.short x (key x m), ?_⟩
  show ((ptN ab n).map _).length ≤ 6
  rw [List.length_map]
  exact Nat.le_trans (ptF_len ab 5 n) (by decide)
theorem pth_step (a : AbOk ab) {n : Nat} (h0 : 0 < n) (h : n < 5) : pth names ab n = pth names ab (ab.getD n 0) ++ [nmA names n] := by
  unfold pth
  rw [ptN_step a h0 h, List.map_append]; rfl
theorem map_inj_on {f : Nat → Str} : ∀ {l m : List Nat}, (∀ x, x ∈ l → 0 < x ∧ x < 5) → (∀ x, x ∈ m → 0 < x ∧ x < 5) → (∀ i j, 0 < i → i < 5 → 0 < j → j < 5 → f i = f j → i = j) → l.map f <+: m.map f → l <+: m
  | [], m, _, _, _, _ => List.nil_prefix
  | x :: l, [], _, _, _, h => by
    have := h.length_le
    simp at this
  | x :: l, y :: m, hl, hm, hf, h => by
    rw [List.map_cons, List.map_cons, List.cons_prefix_cons] at h
    have e := hf x y (hl x (.head _)).1 (hl x (.head _)).2 (hm y (.head _)).1 (hm y (.head _)).2 h.1
    rw [e, List.cons_prefix_cons]
    exact ⟨rfl, map_inj_on (fun x m => hl x (.tail _ m)) (fun x q => hm x (.tail _ q)) hf h.2⟩
noncomputable def anc (ab : List Nat) (i j : Nat) : Bool := (ptN ab i).isPrefixOf (ptN ab j)
theorem anc_iff (N : Nms names) (a : AbOk ab) {i j : Nat} (hi : i < 5) (hj : j < 5) : pth names ab i <+: pth names ab j ↔ anc ab i j = true := by
  unfold anc
  rw [List.isPrefixOf_iff_prefix]
  constructor
  · exact map_inj_on (fun x m => ptF_mem ab 5 i x hi a m) (fun x m => ptF_mem ab 5 j x hj a m) N.inj
  · intro h
    exact h.map _
noncomputable def rp (names : List Str) (ab : List Nat) (n : Nat) : Str := rend (pth names ab n)
theorem laidF_is (N : Nms names) (a : AbOk ab) : ∀ (m n : Nat), 0 < n → n + m ≤ 5 → laidF ab names n m ((List.range n).map (rp names ab)) = (List.range (n + m)).map (rp names ab)
  | 0, n, _, _ => rfl
  | m + 1, n, h0, h => by
    have hu := a.up n h0 (by omega)
    show laidF ab names (n + 1) m ((List.range n).map (rp names ab) ++ [joinS (((List.range n).map (rp names ab)).getD (ab.getD n 0) "") (names.getD (n - 1) "")]) = _
    have e1 : ((List.range n).map (rp names ab)).getD (ab.getD n 0) "" = rp names ab (ab.getD n 0) := by
      generalize ab.getD n 0 = u at hu
      simp [hu]
    have e2 : joinS (rp names ab (ab.getD n 0)) (names.getD (n - 1) "") = rp names ab n := by
      unfold rp
      rw [pth_step a h0 (by omega)]
      exact join_rend (pth_path N a (by omega)).gn (N.gn _ (nmA_mem N h0 (by omega)))
    have e3 : (List.range n).map (rp names ab) ++ [rp names ab n] = (List.range (n + 1)).map (rp names ab) := by
      rw [List.range_succ, List.map_append]; rfl
    rw [e1, e2, e3, laidF_is N a m (n + 1) (by omega) (by omega)]
    congr 2; omega
theorem laid_is (N : Nms names) (a : AbOk ab) : laidS ab names = (List.range 5).map (rp names ab) := laidF_is N a 4 1 (by decide) (by decide)
theorem pAt_is (N : Nms names) (a : AbOk ab) {n : Nat} (h : n < 5) : pAt (laidS ab names) n = rp names ab n := by
  rw [laid_is N a]
  unfold pAt
  simp [h]
theorem rp_base (N : Nms names) (a : AbOk ab) {n : Nat} (h : n < 5) : baseS (rp names ab n) = (("" : Str) :: names).getD n "" := by
  by_cases h0 : n = 0
  · subst h0
    show baseS slash = ""
    exact base_at (p := []) (c := "") cs_slash (by rw [cs_empty]; simp)
  · unfold rp
    rw [pth_step a (by omega) h, base_rend (N.gn _ (nmA_mem N (by omega) h))]
    obtain ⟨m, rfl⟩ : ∃ m, n = m + 1 := ⟨n - 1, by omega⟩
    rfl
theorem rp_dir (N : Nms names) (a : AbOk ab) {n : Nat} (h0 : 0 < n) (h : n < 5) : dirS (rp names ab n) = rp names ab (ab.getD n 0) := by
  have hu := a.up n h0 h
  unfold rp
  rw [pth_step a h0 h]
  exact dir_rend (pth_path N a (by omega)).gn (N.gn _ (nmA_mem N h0 h))
theorem ptN_inj (a : AbOk ab) {i j : Nat} (hi : i < 5) (hj : j < 5) (e : ptN ab i = ptN ab j) : i = j := by
  by_cases h0 : i = 0
  · by_cases h1 : j = 0
    · rw [h0, h1]
    · subst h0
      rw [ptN_zero, ptN_step a (by omega) hj] at e
      exact absurd (congrArg List.length e) (by simp)
  · by_cases h1 : j = 0
    · subst h1
      rw [ptN_zero, ptN_step a (by omega) hi] at e
      exact absurd (congrArg List.length e) (by simp)
    · rw [ptN_step a (by omega) hi, ptN_step a (by omega) hj] at e
      have := List.append_inj_right' e rfl
      simpa using this
theorem rp_inj (N : Nms names) (a : AbOk ab) {i j : Nat} (hi : i < 5) (hj : j < 5) (e : rp names ab i = rp names ab j) : i = j := by
  have e1 := rend_inj (pth_path N a hi).gn (pth_path N a hj).gn e
  have p1 := (anc_iff N a hi hj).mp (e1 ▸ List.prefix_refl _)
  have p2 := (anc_iff N a hj hi).mp (e1 ▸ List.prefix_refl _)
  unfold anc at p1 p2
  rw [List.isPrefixOf_iff_prefix] at p1 p2
  exact ptN_inj a hi hj (p1.eq_of_length (Nat.le_antisymm p1.length_le p2.length_le))
theorem comm_rp (N : Nms names) (a : AbOk ab) {i j : Nat} (hi : i < 5) (hj : j < 5) : (commS [rp names ab i, rp names ab j] == rp names ab i) = anc ab i j := by
  refine Bool.eq_iff_iff.mpr ?_
  exact (comm_two (pth_path N a hi).gn (pth_path N a hj).gn).trans (anc_iff N a hi hj)
theorem cp_rp (N : Nms names) (a : AbOk ab) {i j : Nat} (hi : i < 5) (hj : j < 5) : CpOk [rp names ab i, rp names ab j] :=
  cpok (L := [pth names ab i, pth names ab j]) (by simp) (by simp) fun l m => by
    rcases List.mem_cons.mp m with rfl | m
    · exact pth_path N a hi
    · rw [List.mem_singleton.mp m]; exact pth_path N a hj
end Jv.L2
namespace Jv.L2
open PySem PySem.W PySem.Calls PyProof.Rows
noncomputable def absA : List (List Nat) := [[0, 0, 0, 0, 0], [0, 0, 0, 0, 1], [0, 0, 0, 0, 2], [0, 0, 0, 0, 3], [0, 0, 0, 1, 0], [0, 0, 0, 1, 1], [0, 0, 0, 1, 2], [0, 0, 0, 1, 3]]
noncomputable def absB : List (List Nat) := [[0, 0, 0, 2, 0], [0, 0, 0, 2, 1], [0, 0, 0, 2, 2], [0, 0, 0, 2, 3], [0, 0, 1, 0, 0], [0, 0, 1, 0, 1], [0, 0, 1, 0, 2], [0, 0, 1, 0, 3]]
noncomputable def absC : List (List Nat) := [[0, 0, 1, 1, 0], [0, 0, 1, 1, 1], [0, 0, 1, 1, 2], [0, 0, 1, 1, 3], [0, 0, 1, 2, 0], [0, 0, 1, 2, 1], [0, 0, 1, 2, 2], [0, 0, 1, 2, 3]]
noncomputable def absL : List (List Nat) := absA ++ (absB ++ absC)
theorem abs3 {f : List Nat → Bool} (a : absA.all f = true) (b : absB.all f = true) (c : absC.all f = true) {ab : List Nat} (m : ab ∈ absL) : f ab = true := by
  rcases List.mem_append.mp m with m | m
  · exact List.all_eq_true.mp a ab m
  · rcases List.mem_append.mp m with m | m
    · exact List.all_eq_true.mp b ab m
    · exact List.all_eq_true.mp c ab m
noncomputable def ordsL : List (List Nat) := [[4, 3, 2, 1], [3, 4, 2, 1], [3, 2, 4, 1], [3, 2, 1, 4], [4, 2, 3, 1], [2, 4, 3, 1], [2, 3, 4, 1], [2, 3, 1, 4], [4, 2, 1, 3], [2, 4, 1, 3], [2, 1, 4, 3], [2, 1, 3, 4],
  [4, 3, 1, 2], [3, 4, 1, 2], [3, 1, 4, 2], [3, 1, 2, 4], [4, 1, 3, 2], [1, 4, 3, 2], [1, 3, 4, 2], [1, 3, 2, 4], [4, 1, 2, 3], [1, 4, 2, 3], [1, 2, 4, 3], [1, 2, 3, 4]]
noncomputable def swapF (t : List Nat) (n i : Nat) : List Nat := match t with
  | [a, b, c, d, e] => (match n with
    | 1 => [b, a, c, d, e]
    | 2 => (match i with | 0 => [c, b, a, d, e] | _ => [a, c, b, d, e])
    | 3 => (match i with | 0 => [d, b, c, a, e] | 1 => [a, d, c, b, e] | _ => [a, b, d, c, e])
    | _ => (match i with | 0 => [e, b, c, d, a] | 1 => [a, e, c, d, b] | 2 => [a, b, e, d, c] | _ => [a, b, c, e, d]))
  | t => t
theorem swap_is {t : List Nat} {n i : Nat} (ht : t.length = 5) (hi : i < n) (hn : n < 5) : swapN t n i = swapF t n i := by
  match t, ht with
  | [a, b, c, d, e], _ =>
    match n, i, hi, hn with
    | 1, 0, _, _ => rfl
    | 2, 0, _, _ => rfl
    | 2, 1, _, _ => rfl
    | 3, 0, _, _ => rfl
    | 3, 1, _, _ => rfl
    | 3, 2, _, _ => rfl
    | 4, 0, _, _ => rfl
    | 4, 1, _, _ => rfl
    | 4, 2, _, _ => rfl
    | 4, 3, _, _ => rfl
noncomputable def doneF (t : List Nat) (F : List (Nat × Nat)) : List Nat := F.foldl (fun t p => swapF t p.1 p.2) t
theorem done_is : ∀ {F : List (Nat × Nat)} {t : List Nat}, t.length = 5 → StOk F → doneN t F = doneF t F
  | [], t, _, _ => rfl
  | p :: F, t, ht, so => by
    have hp := so.rng p (.head _)
    show doneN (swapN t p.1 p.2) F = doneF (swapF t p.1 p.2) F
    rw [done_is (swap_len ht hp.1 hp.2) ⟨fun q m => so.rng q (.tail _ m)⟩, swap_is ht hp.1 hp.2]
noncomputable def allF : Nat → List Nat → List (Nat × Nat) → List (List Nat)
  | 0, t, _ => [t]
  | m + 1, t, left => left.flatMap fun p => allF m (swapF t p.1 p.2) (left.filter fun q => !(q.1 == p.1))
theorem flatMap_congr' {α β : Type} {f g : α → List β} : ∀ {l : List α}, (∀ x, x ∈ l → f x = g x) → l.flatMap f = l.flatMap g
  | [], _ => rfl
  | x :: l, h => by rw [List.flatMap_cons, List.flatMap_cons, h x (.head _), flatMap_congr' fun y m => h y (.tail _ m)]
theorem all_is : ∀ (m : Nat) {t : List Nat} {left : List (Nat × Nat)}, t.length = 5 → StOk left → (∀ p q, p ∈ left → q ∈ left → p.1 = q.1 → p = q) → allN m t left = allF m t left
  | 0, t, left, _, _, _ => rfl
  | m + 1, t, left, ht, so, hu => by
    show (left.flatMap _) = left.flatMap _
    refine flatMap_congr' fun p mp => ?_
    have hp := so.rng p mp
    have e : (left.filter fun q => decide (q ≠ p)) = left.filter fun q => !(q.1 == p.1) := List.filter_congr fun q mq => by
      refine Bool.eq_iff_iff.mpr ?_
      rw [decide_eq_true_iff, Bool.not_eq_true', beq_eq_false_iff_ne]
      exact not_congr ⟨fun e => by rw [e], hu q p mq mp⟩
    rw [e, swap_is ht hp.1 hp.2]
    exact all_is m (swap_is ht hp.1 hp.2 ▸ swap_len ht hp.1 hp.2) ⟨fun q mq => so.rng q (List.mem_filter.mp mq).1⟩ fun a b ma mb => hu a b (List.mem_filter.mp ma).1 (List.mem_filter.mp mb).1
noncomputable def laterF (F : List (Nat × Nat)) (n : Nat) : List (Nat × Nat) := F.filter fun q => Nat.beq n q.1 || Nat.beq n q.2
theorem later_is (F : List (Nat × Nat)) (n : Nat) : laterOf F n = laterF F n := List.filter_congr fun q _ => by
  refine Bool.eq_iff_iff.mpr ?_
  rw [decide_eq_true_iff, Bool.or_eq_true, Nat.beq_eq, Nat.beq_eq]
noncomputable def rowsF (F : List (Nat × Nat)) : List (List (Nat × Nat)) := [laterF F 0, laterF F 1, laterF F 2, laterF F 3, laterF F 4]
theorem rows_is (F : List (Nat × Nat)) : rowsOf F = rowsF F := by
  show [laterOf F 0, laterOf F 1, laterOf F 2, laterOf F 3, laterOf F 4] = _
  simp only [later_is]; rfl
noncomputable def whereN (t : List Nat) : List Nat := [0, 1, 2, 3, 4].map fun c => t.idxOf c
noncomputable def endB (ab o : List Nat) : Bool := endsN ab o == whereN (doneF t0 (firstOf ab o))
noncomputable def iffB (ab : List Nat) : Bool :=
  let l := ordsL.map fun o => (rowsF (firstOf ab o), doneF t0 (firstOf ab o))
  l.all fun x => l.all fun y => (x.1 == y.1) == (x.2 == y.2)
noncomputable def code (t : List Nat) : Nat := t.foldl (fun a x => a * 8 + x) 0
noncomputable def cycL : List (List Nat) := allF 4 t0 [(1, 0), (2, 0), (3, 0), (4, 0)]
noncomputable def addK (l : List Nat) (x : Nat) : List Nat := if l.contains x then l else l ++ [x]
noncomputable def rndB (ab : List Nat) : Bool :=
  let l := (allF 4 t0 (stepsOf ab)).map code
  let c := cycL.map code
  l.all (fun x => c.contains x) && (l.foldl addK []).length == ordN ([0, 1, 2, 3, 4].map fun n => (laterF (stepsOf ab) n).length) && decide (1 < (l.foldl addK []).length) && decide ((l.foldl addK []).length < 64)
noncomputable def beyN (ab : List Nat) (rest : List (Nat × Nat)) (n one : Nat) : Bool :=
  match laterF rest n with
  | [] => one == n
  | q :: _ => if q.2 = n then anc ab q.1 one else !(anc ab n one)
noncomputable def subN (ab : List Nat) (n : Nat) : List Nat := [0, 1, 2, 3, 4].filter (anc ab n)
noncomputable def movN (W : List Nat) (A : List Nat) : List Nat := A.map fun n => W.getD n 0
noncomputable def readAtB (ab W : List Nat) (p : Nat × Nat) (rest : List (Nat × Nat)) : Bool :=
  let A := subN ab p.1
  let M := movN W A
  match A.filter (fun x => !(M.contains x)), M.filter (fun y => !(A.contains y)) with
  | [x], [y] => decide M.Nodup && beyN ab rest p.1 x && beyN ab rest p.2 y
  | _, _ => false
noncomputable def readB (ab W : List Nat) : List (Nat × Nat) → Bool
  | [] => true
  | p :: rest => readAtB ab W p rest && readB ab W rest
noncomputable def readC (ab o : List Nat) : Bool := readB ab (whereN (doneF t0 (firstOf ab o))) (firstOf ab o)
noncomputable def roundB (t : List Nat) : Bool := t.length == 5 && t.all (fun x => decide (x < 5)) && (firstMet (fun i => (seenL t).getD i 0) (seenL t).length).length == 5 && t.getD (seenP t 4 [] 0).2 0 == 0
noncomputable def occB (t : List Nat) : Bool := [0, 1, 2, 3, 4].all fun c => (Builtin.Str.occurrences (tg t) ⟨#[48 + c]⟩ 0 (tg t).length 1).head? == some (t.idxOf c)
theorem rounds_ok : cycL.all roundB = true := by decide +kernel
theorem occ_ok : cycL.all occB = true := by decide +kernel
noncomputable def endC (ab : List Nat) : Bool := ordsL.all (endB ab)
noncomputable def redC (ab : List Nat) : Bool := ordsL.all (readC ab)
theorem endA : absA.all endC = true := by decide +kernel
theorem endB' : absB.all endC = true := by decide +kernel
theorem endD : absC.all endC = true := by decide +kernel
theorem rndA : absA.all rndB = true := by decide +kernel
theorem rndB' : absB.all rndB = true := by decide +kernel
theorem rndC : absC.all rndB = true := by decide +kernel
theorem iffA : absA.all iffB = true := by decide +kernel
theorem iffB' : absB.all iffB = true := by decide +kernel
theorem iffC : absC.all iffB = true := by decide +kernel
theorem redA : absA.all redC = true := by decide +kernel
theorem redB : absB.all redC = true := by decide +kernel
theorem redD : absC.all redC = true := by decide +kernel
theorem end_ok {ab o : List Nat} (m : ab ∈ absL) (mo : o ∈ ordsL) : endB ab o = true := List.all_eq_true.mp (abs3 endA endB' endD m) o mo
theorem rnd_ok {ab : List Nat} (m : ab ∈ absL) : rndB ab = true := abs3 rndA rndB' rndC m
theorem iff_ok {ab : List Nat} (m : ab ∈ absL) : iffB ab = true := abs3 iffA iffB' iffC m
theorem red_ok {ab o : List Nat} (m : ab ∈ absL) (mo : o ∈ ordsL) : readC ab o = true := List.all_eq_true.mp (abs3 redA redB redD m) o mo
end Jv.L2
namespace Jv.L2
open PySem PySem.W PySem.Calls PyProof.Rows
noncomputable def insP (o : List Nat) (n p : Nat) : List Nat := o.take p ++ [n] ++ o.drop p
theorem abs_mem : ∀ b, b < 2 → ∀ c, c < 3 → ∀ d, d < 4 → [0, 0, b, c, d] ∈ absL := by decide +kernel
theorem ords_mem : ∀ b, b < 2 → ∀ c, c < 3 → ∀ d, d < 4 → insP (insP (insP (insP [] 1 0) 2 b) 3 c) 4 d ∈ ordsL := by decide +kernel
theorem abs_fact : ∀ ab, ab ∈ absL → ab.length = 5 ∧ ∀ n, n < 5 → 0 < n → ab.getD n 0 < n := by decide +kernel
theorem ords_fact : ∀ o, o ∈ ordsL → o.length = 4 ∧ (∀ n, n ∈ o → 0 < n ∧ n < 5) ∧ o.isPerm [1, 2, 3, 4] = true := by decide +kernel
theorem nat_of {a b : Int} (h : 0 ≤ a ∧ a < b) {n : Nat} (e : b = n) : ∃ m : Nat, m < n ∧ a = m := ⟨a.toNat, by omega, by omega⟩
theorem ab_of (c : Int) : ∃ ab, ab ∈ absL ∧ 0 :: digs c [1, 2, 3, 4] = ab.map Int.ofNat := by
  refine byEA (nat_of (fmodR c (b := 1) (by decide)) (n := 1) rfl) fun x1 l1 e1 => ?_
  refine byEA (nat_of (fmodR (c.fdiv 1) (b := 2) (by decide)) (n := 2) rfl) fun x2 l2 e2 => ?_
  refine byEA (nat_of (fmodR ((c.fdiv 1).fdiv 2) (b := 3) (by decide)) (n := 3) rfl) fun x3 l3 e3 => ?_
  refine byEA (nat_of (fmodR (((c.fdiv 1).fdiv 2).fdiv 3) (b := 4) (by decide)) (n := 4) rfl) fun x4 l4 e4 => ?_
  refine ⟨[0, 0, x2, x3, x4], abs_mem x2 l2 x3 l3 x4 l4, ?_⟩
  obtain rfl : x1 = 0 := by omega
  simp only [digs, e1, e2, e3, e4]
  rfl
theorem ord_of (c : Int) : ∃ o, o ∈ ordsL ∧ insO c [1, 2, 3, 4] [] = o.map Int.ofNat := by
  refine byEA (nat_of (fmodR c (b := 1) (by decide)) (n := 1) rfl) fun x1 l1 e1 => ?_
  refine byEA (nat_of (fmodR (c.fdiv 1) (b := 2) (by decide)) (n := 2) rfl) fun x2 l2 e2 => ?_
  refine byEA (nat_of (fmodR ((c.fdiv 1).fdiv 2) (b := 3) (by decide)) (n := 3) rfl) fun x3 l3 e3 => ?_
  refine byEA (nat_of (fmodR (((c.fdiv 1).fdiv 2).fdiv 3) (b := 4) (by decide)) (n := 4) rfl) fun x4 l4 e4 => ?_
  refine ⟨insP (insP (insP (insP [] 1 0) 2 x2) 3 x3) 4 x4, ords_mem x2 l2 x3 l3 x4 l4, ?_⟩
  obtain rfl : x1 = 0 := by omega
  simp only [insO, e1, e2, e3, e4, Int.toNat_natCast]
  simp only [insP, List.map_append, List.map_take, List.map_drop]
  rfl
theorem ab_ok {ab : List Nat} (m : ab ∈ absL) : AbOk ab := ⟨(abs_fact ab m).1, fun n h0 h => (abs_fact ab m).2 n h h0⟩
theorem or_ok {o : List Nat} (m : o ∈ ordsL) : OrOk o := ⟨(ords_fact o m).1, (ords_fact o m).2.1⟩
theorem first_perm {ab o : List Nat} (m : o ∈ ordsL) : (firstOf ab o).Perm (stepsOf ab) := by
  have h := List.isPerm_iff.mp (ords_fact o m).2.2
  exact h.map (fun n => (stepsOf ab).getD (n - 1) (0, 0))
theorem done_mem : ∀ (F left : List (Nat × Nat)) (t : List Nat), left.Nodup → F.Perm left → doneN t F ∈ allN left.length t left
  | [], left, t, _, h => by
    have : left = [] := List.perm_nil.mp h.symm
    subst this
    exact List.mem_singleton.mpr rfl
  | p :: F, left, t, hn, h => by
    have mp : p ∈ left := h.mem_iff.mp (.head _)
    have hl : left.length = (left.filter fun q => decide (q ≠ p)).length + 1 := (filter_one hn mp).symm
    rw [hl]
    refine List.mem_flatMap.mpr ⟨p, mp, ?_⟩
    refine done_mem F _ _ (hn.filter _) ?_
    have hp : p ∉ F := (List.nodup_cons.mp (h.nodup_iff.mpr hn)).1
    have e : (p :: F).filter (fun q => decide (q ≠ p)) = F := by
      rw [List.filter_cons_of_neg (by simp)]
      exact List.filter_eq_self.mpr fun q mq => by rw [decide_eq_true_iff]; rintro rfl; exact hp mq
    have := h.filter (fun q => decide (q ≠ p))
    rw [e] at this
    exact this
noncomputable def Five (t : List Nat) : Prop := ∃ a b c d e, t = [a, b, c, d, e] ∧ a < 5 ∧ b < 5 ∧ c < 5 ∧ d < 5 ∧ e < 5
theorem five_swap {t : List Nat} {n i : Nat} (h : Five t) (hi : i < n) (hn : n < 5) : Five (swapF t n i) := by
  obtain ⟨a, b, c, d, e, rfl, ha, hb, hc, hd, he⟩ := h
  match n, i, hi, hn with
  | 1, 0, _, _ => exact ⟨_, _, _, _, _, rfl, hb, ha, hc, hd, he⟩
  | 2, 0, _, _ => exact ⟨_, _, _, _, _, rfl, hc, hb, ha, hd, he⟩
  | 2, 1, _, _ => exact ⟨_, _, _, _, _, rfl, ha, hc, hb, hd, he⟩
  | 3, 0, _, _ => exact ⟨_, _, _, _, _, rfl, hd, hb, hc, ha, he⟩
  | 3, 1, _, _ => exact ⟨_, _, _, _, _, rfl, ha, hd, hc, hb, he⟩
  | 3, 2, _, _ => exact ⟨_, _, _, _, _, rfl, ha, hb, hd, hc, he⟩
  | 4, 0, _, _ => exact ⟨_, _, _, _, _, rfl, he, hb, hc, hd, ha⟩
  | 4, 1, _, _ => exact ⟨_, _, _, _, _, rfl, ha, he, hc, hd, hb⟩
  | 4, 2, _, _ => exact ⟨_, _, _, _, _, rfl, ha, hb, he, hd, hc⟩
  | 4, 3, _, _ => exact ⟨_, _, _, _, _, rfl, ha, hb, hc, he, hd⟩
theorem five_all : ∀ (m : Nat) {t : List Nat} {left : List (Nat × Nat)}, Five t → StOk left → ∀ u, u ∈ allF m t left → Five u
  | 0, t, left, h, _, u, mu => by rw [List.mem_singleton.mp mu]; exact h
  | m + 1, t, left, h, so, u, mu => by
    refine byEA (List.mem_flatMap.mp mu) fun p mp mu => ?_
    exact five_all m (five_swap h (so.rng p mp).1 (so.rng p mp).2) ⟨fun q mq => so.rng q (List.mem_filter.mp mq).1⟩ u mu
theorem code_inj {t u : List Nat} (ht : Five t) (hu : Five u) (e : code t = code u) : t = u := by
  obtain ⟨a, b, c, d, f, rfl, ha, hb, hc, hd, he⟩ := ht
  obtain ⟨a', b', c', d', f', rfl, ha', hb', hc', hd', he'⟩ := hu
  have e : ((((0 * 8 + a) * 8 + b) * 8 + c) * 8 + d) * 8 + f = ((((0 * 8 + a') * 8 + b') * 8 + c') * 8 + d') * 8 + f' := e
  have h1 : a = a' := by omega
  have h2 : b = b' := by omega
  have h3 : c = c' := by omega
  have h4 : d = d' := by omega
  have h5 : f = f' := by omega
  rw [h1, h2, h3, h4, h5]
theorem ded_len {α : Type} (f : α → Str) (g : α → Nat) : ∀ (l m : List α), (∀ x y, x ∈ l ++ m → y ∈ l ++ m → (f x = f y ↔ g x = g y)) → ∃ r : List α, (l.map f).foldl addS (m.map f) = r.map f ∧ (l.map g).foldl addK (m.map g) = r.map g
  | [], m, _ => ⟨m, rfl, rfl⟩
  | x :: l, m, h => by
    have key : (m.map f).contains (f x) = (m.map g).contains (g x) := by
      refine Bool.eq_iff_iff.mpr ?_
      rw [List.contains_iff_mem, List.contains_iff_mem, List.mem_map, List.mem_map]
      constructor
      · rintro ⟨y, my, e⟩; exact ⟨y, my, (h y x (List.mem_append_right _ my) (List.mem_append_left _ (.head _))).mp e⟩
      · rintro ⟨y, my, e⟩; exact ⟨y, my, (h y x (List.mem_append_right _ my) (List.mem_append_left _ (.head _))).mpr e⟩
    by_cases c : (m.map g).contains (g x) = true
    · have e1 : addS (m.map f) (f x) = m.map f := if_pos (key.trans c)
      have e2 : addK (m.map g) (g x) = m.map g := if_pos c
      show ∃ r : List α, (l.map f).foldl addS (addS (m.map f) (f x)) = r.map f ∧ (l.map g).foldl addK (addK (m.map g) (g x)) = r.map g
      rw [e1, e2]
      exact ded_len f g l m fun a b ma mb => h a b (by rw [List.cons_append]; exact .tail _ ma) (by rw [List.cons_append]; exact .tail _ mb)
    · have e1 : addS (m.map f) (f x) = (m ++ [x]).map f := by
        rw [List.map_append]; exact if_neg (by rw [key]; exact c)
      have e2 : addK (m.map g) (g x) = (m ++ [x]).map g := by
        rw [List.map_append]; exact if_neg c
      show ∃ r : List α, (l.map f).foldl addS (addS (m.map f) (f x)) = r.map f ∧ (l.map g).foldl addK (addK (m.map g) (g x)) = r.map g
      rw [e1, e2]
      have sw : ∀ a, a ∈ l ++ (m ++ [x]) → a ∈ x :: l ++ m := fun a ma => by
        simp at ma ⊢
        rcases ma with q | q | q <;> simp [q]
      exact ded_len f g l (m ++ [x]) fun a b ma mb => h a b (sw a ma) (sw b mb)
end Jv.L2
namespace Jv.L2
open PySem PySem.W PySem.Calls PyProof.Rows
variable {names : List Str} {ab : List Nat}
theorem laid5 (N : Nms names) (a : AbOk ab) : laidS ab names = [0, 1, 2, 3, 4].map (rp names ab) := laid_is N a
theorem lt5 {n : Nat} (h : n ∈ [0, 1, 2, 3, 4]) : n < 5 := by simp at h; omega
theorem mem5 {n : Nat} (h : n < 5) : n ∈ [0, 1, 2, 3, 4] := by simp; omega
theorem sub_lt {k n : Nat} (h : n ∈ subN ab k) : n < 5 := lt5 (List.mem_filter.mp h).1
theorem held_is (N : Nms names) (a : AbOk ab) {k : Nat} (hk : k < 5) : heldS (laidS ab names) (pAt (laidS ab names) k) = sortS ((subN ab k).map (rp names ab)) := by
  unfold heldS
  rw [pAt_is N a hk, laid5 N a, List.filter_map]
  have e : [0, 1, 2, 3, 4].filter ((fun q => commS [rp names ab k, q] == rp names ab k) ∘ rp names ab) = subN ab k := List.filter_congr fun n mn => comm_rp N a hk (lt5 mn)
  rw [e]
theorem mem_map_rp (N : Nms names) (a : AbOk ab) {l : List Nat} (hl : ∀ x, x ∈ l → x < 5) {n : Nat} (hn : n < 5) : rp names ab n ∈ l.map (rp names ab) ↔ n ∈ l := by
  constructor
  · intro h
    refine byEA (List.mem_map.mp h) fun m mm e => ?_
    exact rp_inj N a (hl m mm) hn e ▸ mm
  · intro h; exact List.mem_map_of_mem h
theorem moved_is (N : Nms names) (a : AbOk ab) {W : List Nat} (hW : ∀ n, n ∈ W → n < 5) {k : Nat} (hk : k < 5) : movedS (laidS ab names) W (sortS ((subN ab k).map (rp names ab))) = sortS ((movN W (subN ab k)).map (rp names ab)) := by
  unfold movedS movN
  have e : ([0, 1, 2, 3, 4].filter fun n => decide (pAt (laidS ab names) n ∈ sortS ((subN ab k).map (rp names ab)))) = subN ab k := List.filter_congr fun n mn => by
    refine Bool.eq_iff_iff.mpr ?_
    rw [decide_eq_true_iff, (sortS_perm _).mem_iff, pAt_is N a (lt5 mn), mem_map_rp N a (fun x m => sub_lt m) (lt5 mn)]
    unfold subN
    rw [List.mem_filter]
    exact ⟨fun h => h.2, fun h => ⟨mn, h⟩⟩
  rw [e, List.map_map]
  congr 1
  exact List.map_congr_left fun n mn => pAt_is N a (getD5 hW n)
theorem nodup_rp (N : Nms names) (a : AbOk ab) {l : List Nat} (hl : ∀ x, x ∈ l → x < 5) (nd : l.Nodup) : (l.map (rp names ab)).Nodup := by
  unfold List.Nodup at nd ⊢
  rw [List.pairwise_map]
  exact nd.imp_of_mem fun {x y} mx my hne e => hne (rp_inj N a (hl x mx) (hl y my) e)
theorem rest_of (N : Nms names) (a : AbOk ab) {A M : List Nat} (hA : ∀ x, x ∈ A → x < 5) (hM : ∀ x, x ∈ M → x < 5) {z : Nat} (h : A.filter (fun x => !(M.contains x)) = [z]) :
    (sortS (A.map (rp names ab))).filter (fun x => decide (x ∉ sortS (M.map (rp names ab)))) = [rp names ab z] := by
  refine List.perm_singleton.mp (((sortS_perm _).filter _).trans ?_)
  rw [List.filter_map]
  have e : A.filter ((fun x => decide (x ∉ sortS (M.map (rp names ab)))) ∘ rp names ab) = A.filter fun x => !(M.contains x) := List.filter_congr fun x mx => by
    refine Bool.eq_iff_iff.mpr ?_
    show decide _ = true ↔ _
    rw [decide_eq_true_iff, (sortS_perm _).mem_iff, mem_map_rp N a hM (hA x mx), Bool.not_eq_true', ← Bool.not_eq_true, List.contains_iff_mem]
  rw [e, h]
  exact .refl _
theorem bey_is (N : Nms names) (a : AbOk ab) {rest : List (Nat × Nat)} (so : ∀ q, q ∈ rest → q.1 < 5) {n x : Nat} (hn : n < 5) (hx : x < 5) : bey (laidS ab names) rest n (rp names ab x) = beyN ab rest n x := by
  unfold bey beyN
  rw [later_is]
  have hq : ∀ q, q ∈ laterF rest n → q.1 < 5 := fun q m => so q (List.mem_filter.mp m).1
  generalize laterF rest n = l at hq
  cases l with
  | nil =>
    show (rp names ab x == pAt (laidS ab names) n) = (x == n)
    rw [pAt_is N a hn]
    refine Bool.eq_iff_iff.mpr ?_
    rw [beq_iff_eq, beq_iff_eq]
    exact ⟨rp_inj N a hx hn, fun e => by rw [e]⟩
  | cons q l =>
    have h1 := hq q (.head _)
    show (if q.2 = n then commS [pAt (laidS ab names) q.1, rp names ab x] == pAt (laidS ab names) q.1 else !(commS [pAt (laidS ab names) n, rp names ab x] == pAt (laidS ab names) n)) = (if q.2 = n then anc ab q.1 x else !(anc ab n x))
    rw [pAt_is N a h1, pAt_is N a hn, comm_rp N a h1 hx, comm_rp N a hn hx]
theorem readB_at {W : List Nat} : ∀ {F pre : List (Nat × Nat)} {p : Nat × Nat} {rest : List (Nat × Nat)}, readB ab W F = true → F = pre ++ p :: rest → readAtB ab W p rest = true
  | F, [], p, rest, h, e => by
    subst e
    have h : (readAtB ab W p rest && readB ab W rest) = true := h
    rw [Bool.and_eq_true] at h; exact h.1
  | F, q :: pre, p, rest, h, e => by
    subst e
    have h : (readAtB ab W q (pre ++ p :: rest) && readB ab W (pre ++ p :: rest)) = true := h
    rw [Bool.and_eq_true] at h
    exact readB_at h.2 rfl
theorem mem_one {l : List Nat} {p : Nat → Bool} {z : Nat} (h : l.filter p = [z]) : z ∈ l := (List.mem_filter.mp (h ▸ List.mem_singleton.mpr rfl : z ∈ l.filter p)).1
theorem read_ok (N : Nms names) (a : AbOk ab) {W : List Nat} (hW5 : W.length = 5) (hW : ∀ n, n ∈ W → n < 5) {F : List (Nat × Nat)} (so : StOk F) (hl : F.length ≤ 10) (hr : readB ab W F = true) : ReadOk (laidS ab names) W F where
  len := by rw [laid5 N a]; rfl
  wlen := hW5
  wrng := hW
  so := so
  olen := hl
  cp p q mp mq := by
    rw [laid5 N a] at mp mq
    refine byEA (List.mem_map.mp mp) fun i mi ei => ?_
    refine byEA (List.mem_map.mp mq) fun j mj ej => ?_
    rw [← ei, ← ej]
    exact cp_rp N a (lt5 mi) (lt5 mj)
  at_ pre p rest e := by
    have h := readB_at hr e
    have hp := so.rng p (by rw [e]; simp)
    have hsr : ∀ q, q ∈ rest → q.1 < 5 := fun q mq => (so.rng q (by rw [e]; simp [mq])).2
    unfold readAtB at h
    dsimp only at h
    split at h
    · rename_i x y ex ey
      rw [Bool.and_eq_true, Bool.and_eq_true, decide_eq_true_iff] at h
      have hA : ∀ n, n ∈ subN ab p.1 → n < 5 := fun n m => sub_lt m
      have hM : ∀ n, n ∈ movN W (subN ab p.1) → n < 5 := fun n m => by
        refine byEA (List.mem_map.mp m) fun i _ ei => ?_
        rw [← ei]; exact getD5 hW i
      have hx := hA x (mem_one ex)
      have hy := hM y (mem_one ey)
      have nA : (subN ab p.1).Nodup := (show ([0, 1, 2, 3, 4] : List Nat).Nodup by decide).filter _
      have hh := held_is N a hp.2
      have hm := moved_is N a hW hp.2
      have rA := rising_sort (nodup_rp N a hA nA)
      have rM := rising_sort (nodup_rp N a hM h.1.1)
      have sp := sld_spec rA rM
      have mem : ∀ z, z < 5 → rp names ab z ∈ laidS ab names := fun z hz => by rw [laid5 N a]; exact List.mem_map_of_mem (mem5 hz)
      refine ⟨rp names ab x, rp names ab y, ?_, ?_, ?_, mem x hx, mem y hy, ?_, ?_⟩
      · rw [hh]; exact rA
      · rw [hh, hm]; exact rM
      · rw [hh, hm]
        exact Prod.ext (sp.1.trans (rest_of N a hA hM ex)) (sp.2.trans (rest_of N a hM hA ey))
      · rw [bey_is N a hsr hp.2 hx]; exact h.1.2
      · rw [bey_is N a hsr (Nat.lt_trans hp.1 hp.2) hy]; exact h.2
    · cases h
end Jv.L2
namespace Jv.L2
open PySem PySem.W PySem.Calls PyProof.Rows
noncomputable def textsOf (c : Int) : List Str := [0, 1, 2, 3].map (textAt c)
noncomputable def namesOf (n : Nat) (c : Int) : List Str := (textsOf c).map (esc (forms n))
theorem names_get (n : Nat) (c : Int) : ∀ i, 0 < i → i < 5 → nmA (namesOf n c) i = esc (forms n) (textAt c ((i : Nat) - 1 : Int))
  | 1, _, _ => rfl
  | 2, _, _ => rfl
  | 3, _, _ => rfl
  | 4, _, _ => rfl
theorem texts_mem {c : Int} {t : Str} (m : t ∈ textsOf c) : t ∈ pool := by
  refine byEA (List.mem_map.mp m) fun k _ e => ?_
  rw [← e]
  exact text_mem c k
theorem names_ok {n : Nat} (hn : n < 5) (c : Int) : Nms (namesOf n c) where
  len := rfl
  gn x m := by
    refine byEA (List.mem_map.mp m) fun t mt e => ?_
    rw [← e]; exact (ok_parts (ok_all hn (texts_mem mt))).1
  short x m := by
    refine byEA (List.mem_map.mp m) fun t mt e => ?_
    rw [← e]; exact (ok_parts (ok_all hn (texts_mem mt))).2.2.2.2.2.2
  inj i j i0 i5 j0 j5 e := by
    rw [names_get n c i i0 i5, names_get n c j j0 j5] at e
    have := text_inj hn (c := c) (j := ((i : Nat) - 1 : Int)) (k := ((j : Nat) - 1 : Int)) (by omega) (by omega) e
    omega
theorem stepsOf_u (ab : List Nat) : ∀ p q, p ∈ stepsOf ab → q ∈ stepsOf ab → p.1 = q.1 → p = q := fun p q mp mq e => by
  refine byEA (List.mem_map.mp mp) fun i _ ei => ?_
  refine byEA (List.mem_map.mp mq) fun j _ ej => ?_
  subst ei ej
  have e : i = j := e
  rw [e]
theorem stepsOf_nd (ab : List Nat) : (stepsOf ab).Nodup := by
  show ([1, 2, 3, 4].map fun n => (n, ab.getD n 0)).Nodup
  simp
theorem t0_five : Five t0 := ⟨0, 1, 2, 3, 4, rfl, by decide, by decide, by decide, by decide, by decide⟩
theorem star_ok : StOk [(1, 0), (2, 0), (3, 0), (4, 0)] := ⟨by decide⟩
theorem all_mem {ab : List Nat} (m : ab ∈ absL) {t : List Nat} (mt : t ∈ allN 4 t0 (stepsOf ab)) : t ∈ cycL := by
  have a := ab_ok m
  rw [all_is 4 rfl (stepsOf_ok a) (stepsOf_u ab)] at mt
  have h := rnd_ok m
  unfold rndB at h
  simp only [Bool.and_eq_true, List.all_eq_true] at h
  have h1 := h.1.1.1 (code t) (List.mem_map_of_mem mt)
  rw [List.contains_iff_mem] at h1
  refine byEA (List.mem_map.mp h1) fun v mv e => ?_
  have := code_inj (five_all 4 t0_five star_ok v mv) (five_all 4 t0_five (stepsOf_ok a) t mt) e
  exact this ▸ mv
theorem round_of {t : List Nat} (h : t ∈ cycL) : RoundOk t := by
  have h := List.all_eq_true.mp rounds_ok t h
  unfold roundB at h
  simp only [Bool.and_eq_true, beq_iff_eq, List.all_eq_true, decide_eq_true_eq] at h
  refine ⟨h.1.1.1, h.1.1.2, h.1.2, ?_, h.2⟩
  unfold seenL
  rw [List.length_map, List.length_append]
  have : ∀ (m : Nat) (P : List Nat) (x : Nat), (seenP t m P x).1.length = P.length + m := by
    intro m
    induction m with
    | zero => intro P x; rfl
    | succ m IH => intro P x; rw [seenP, IH, List.length_append]; simp; omega
  rw [this]
  exact Nat.lt_of_sub_pos (by show 0 < 4000 - (0 + 4 + 1); decide)
theorem where_get (t : List Nat) : ∀ c, c < 5 → (whereN t).getD c 0 = t.idxOf c
  | 0, _ => rfl
  | 1, _ => rfl
  | 2, _ => rfl
  | 3, _ => rfl
  | 4, _ => rfl
theorem occ_of {t : List Nat} (h : t ∈ cycL) {c : Nat} (hc : c < 5) : ∃ r, Builtin.Str.occurrences (tg t) ⟨#[48 + c]⟩ 0 (tg t).length 1 = (whereN t).getD c 0 :: r := by
  have h := List.all_eq_true.mp (List.all_eq_true.mp occ_ok t h) c (mem5 hc)
  rw [beq_iff_eq] at h
  rw [where_get t c hc]
  cases e : Builtin.Str.occurrences (tg t) ⟨#[48 + c]⟩ 0 (tg t).length 1 with
  | nil => rw [e] at h; cases h
  | cons x r =>
    rw [e] at h
    injection h with h
    exact ⟨r, by rw [h]⟩
theorem where_lt {t : List Nat} (h : t ∈ cycL) : ∀ n, n ∈ whereN t → n < 5 := by
  have : cycL.all (fun t => (whereN t).all fun n => decide (n < 5)) = true := by decide +kernel
  intro n m
  have := List.all_eq_true.mp (List.all_eq_true.mp this t h) n m
  simpa using this
theorem counts {ab : List Nat} (m : ab ∈ absL) : (dedS ((allN 4 t0 (stepsOf ab)).map tg)).length = ordN ([0, 1, 2, 3, 4].map fun n => (laterOf (stepsOf ab) n).length) ∧ 1 < (dedS ((allN 4 t0 (stepsOf ab)).map tg)).length ∧ (dedS ((allN 4 t0 (stepsOf ab)).map tg)).length < 64 := by
  have a := ab_ok m
  have h := rnd_ok m
  unfold rndB at h
  simp only [Bool.and_eq_true, beq_iff_eq, decide_eq_true_eq] at h
  have e := all_is 4 (t := t0) rfl (stepsOf_ok a) (stepsOf_u ab)
  have e2 : laterOf (stepsOf ab) = laterF (stepsOf ab) := funext (later_is _)
  rw [e, e2]
  refine byEA (ded_len tg code (allF 4 t0 (stepsOf ab)) [] fun x y mx my => ?_) fun r e3 e4 => ?_
  · rw [List.append_nil] at mx my
    have fx := five_all 4 t0_five (stepsOf_ok a) x mx
    have fy := five_all 4 t0_five (stepsOf_ok a) y my
    exact ⟨fun q => by rw [tg_inj q], fun q => by rw [code_inj fx fy q]⟩
  · have l1 : (dedS ((allF 4 t0 (stepsOf ab)).map tg)).length = r.length := by
      have : dedS ((allF 4 t0 (stepsOf ab)).map tg) = r.map tg := e3
      rw [this, List.length_map]
    have l2 : (((allF 4 t0 (stepsOf ab)).map code).foldl addK []).length = r.length := by
      have : ((allF 4 t0 (stepsOf ab)).map code).foldl addK [] = r.map code := e4
      rw [this, List.length_map]
    rw [l2] at h
    rw [l1]
    exact ⟨h.1.1.2, h.1.2, h.2⟩
theorem iff_of {ab o1 o2 : List Nat} (m : ab ∈ absL) (m1 : o1 ∈ ordsL) (m2 : o2 ∈ ordsL) : rowsOf (firstOf ab o1) = rowsOf (firstOf ab o2) ↔ doneN t0 (firstOf ab o1) = doneN t0 (firstOf ab o2) := by
  have a := ab_ok m
  have h := iff_ok m
  unfold iffB at h
  simp only [List.all_eq_true] at h
  have h := h _ (List.mem_map_of_mem m1) _ (List.mem_map_of_mem m2)
  rw [rows_is, rows_is, done_is rfl (firstOf_ok a (or_ok m1)), done_is rfl (firstOf_ok a (or_ok m2))]
  rw [beq_iff_eq] at h
  have h := Bool.eq_iff_iff.mp h
  rw [beq_iff_eq, beq_iff_eq] at h
  exact h
theorem law_ok {n : Nat} (hn : n < 5) (c0 : Int) {ab o1 o2 : List Nat} (m : ab ∈ absL) (m1 : o1 ∈ ordsL) (m2 : o2 ∈ ordsL) :
    LawOk n (textsOf c0) (namesOf n c0) ab o1 o2 (whereN (doneN t0 (firstOf ab o1))) (laidS ab (namesOf n c0)) := by
  have a := ab_ok m
  have N := names_ok hn c0
  have so := firstOf_ok a (or_ok m1)
  have md : doneN t0 (firstOf ab o1) ∈ cycL := all_mem m (done_mem _ (stepsOf ab) t0 (stepsOf_nd ab) (first_perm m1))
  have hc := counts m
  have hr := red_ok m m1
  unfold readC at hr
  rw [← done_is rfl so] at hr
  have he := end_ok m m1
  unfold endB at he
  rw [← done_is rfl so, beq_iff_eq] at he
  exact {
    kind := hn
    tlen := rfl
    nm := rfl
    same := fun t m => (ok_parts (ok_all hn (texts_mem m))).2.1
    escok := fun t m => (ok_parts (ok_all hn (texts_mem m))).2.2.1
    asc := fun t m => (ok_parts (ok_all hn (texts_mem m))).2.2.2.1
    jo := fun t m => (ok_parts (ok_all hn (texts_mem m))).2.2.2.2.1
    jl := fun t m => Nat.le_trans (ok_parts (ok_all hn (texts_mem m))).2.2.2.2.2.1 (by decide)
    nsz := N.short
    abok := a
    ok1 := or_ok m1
    ok2 := or_ok m2
    pe := rfl
    psz := fun p mp => by
      rw [laid5 N a] at mp
      refine byEA (List.mem_map.mp mp) fun i mi e => ?_
      rw [← e]
      exact Nat.le_trans (pth_path N a (lt5 mi)).rlen (by decide)
    dir := fun i h0 h => by
      have := a.up i h0 h
      rw [pAt_is N a h, pAt_is N a (by omega)]
      exact rp_dir N a h0 h
    inj := fun i j hi hj e => by
      rw [pAt_is N a hi, pAt_is N a hj] at e
      exact rp_inj N a hi hj e
    base := fun i h => by rw [pAt_is N a h]; exact rp_base N a h
    occ := fun c hc => occ_of md hc
    ends := he
    rnd := fun t mt => round_of (all_mem m mt)
    cnt := hc.1
    many := hc.2
    iff_ := iff_of m m1 m2
    read := read_ok N a rfl (where_lt md) so (by show (o1.map _).length ≤ 10; rw [List.length_map, (or_ok m1).len]; decide) hr }
theorem law_true {B : Base} {k : Nat} (T : Tab9 B) (FL : FnAt B "law" law_args law_body law_scope) {script : List Int} (hsl : script.length ≤ sizeLine) : Calls B (k + 10) "law" [.list (il script)] (.bool true) := by
  obtain ⟨c0, c1, c2, c3, hc⟩ : ∃ c0 c1 c2 c3, addC 0 (script.take 60) [17, 21, 20, 14] = [c0, c1, c2, c3] := by
    have := addC_len (script.take 60) 0 [17, 21, 20, 14]
    match addC 0 (script.take 60) [17, 21, 20, 14], this with
    | [a, b, c, d], _ => exact ⟨a, b, c, d, rfl⟩
  have hf := fmodR c0 (b := 5) (by decide)
  obtain ⟨n, en⟩ : ∃ n : Nat, c0.fmod 5 = (n : Int) := ⟨(c0.fmod 5).toNat, by omega⟩
  have hn : n < 5 := by omega
  refine byEA (ab_of c1) fun ab ma ea => ?_
  refine byEA (ord_of c2) fun o1 m1 e1 => ?_
  refine byEA (ord_of c3) fun o2 m2 e2 => ?_
  refine c_law T FL hsl ?_ (law_ok hn c0 ma m1 m2)
  rw [hc, ← il_nl, ← il_nl, ← il_nl, ← ea, ← e1, ← e2, ← en]
  rfl
end Jv.L2
namespace Jv
open PySem PySem.W PySem.Calls PyProof.Rows
theorem lastAddr (h : Heap) : ∀ m : Nat, (∀ b o, h.get? b = some o → b < m) → ∃ n, (∀ b o, h.get? b = some o → b < n) ∧ (n = 0 ∨ ∃ o, h.get? (n - 1) = some o)
  | 0, hm => ⟨0, hm, .inl rfl⟩
  | m + 1, hm => by
    cases e : h.get? m with
    | some o => exact ⟨m + 1, hm, .inr ⟨o, e⟩⟩
    | none =>
      refine lastAddr h m fun b o hb => ?_
      have := hm b o hb
      rcases Nat.lt_or_ge b m with q | q
      · exact q
      · have : b = m := Nat.le_antisymm (Nat.le_of_lt_succ this) q
        subst this
        rw [e] at hb; cases hb
noncomputable def baseOf (prog : Program) (w : World) (mg mb : Str → Option Value) (s : Shared) (n₀ : Nat) : Base :=
  { prog := prog, w := w, mg := mg, mb := mb, n₀ := n₀, os := s.os, good := fun h => ∀ b o, s.heap.get? b = some o → h.get? b = some o }
theorem base_ok {q : Program} {loose : List Str} {R : WRecords} {XP : (Str → Option Value) → Heap → Prop} {w : World} {s₀ s₁ : Shared} {mg mb : Str → Option Value} (G : Ground q loose R XP w s₀ mg mb s₁.heap) (prog : Program) :
    ∃ n₀, (baseOf prog w mg mb s₁ n₀).Ok := by
  refine byEA (lastAddr s₁.heap s₁.heap.objs.size fun b o e => Heap.lt_size e) fun n h1 h2 => ?_
  (refine byEA (G.T.nodigits) fun _ hp1 _ => ?_; obtain ⟨om, _, _, hom, _⟩ := hp1)
  have hlow : sysModules < n := Nat.lt_trans (by decide) (h1 _ _ hom)
  refine ⟨n, fun h h' g k b o e => k b o (h1 b o e) (g b o e), fun h g => G.T.g.keeps g, fun h g => G.T.b.keeps g, G.T.builtins, fun h g => G.T.nolimit.keeps g, hlow, fun h g => ?_⟩
  rcases h2 with h2 | ⟨o, h2⟩
  · exact Nat.le_trans (Nat.le_of_eq h2) (Nat.zero_le _)
  · have := Heap.lt_size (g _ _ h2)
    exact Nat.le_of_pred_lt this
theorem fn_at {q : Program} {loose : List Str} {R : WRecords} {XP : (Str → Option Value) → Heap → Prop} {w : World} {s₀ s₁ : Shared} {mg mb : Str → Option Value} (G : Ground q loose R XP w s₀ mg mb s₁.heap) (prog : Program) (n₀ : Nat) {d : DefRec} (hd : d ∈ recsOf q) :
    FnAt (baseOf prog w mg mb s₁ n₀) d.name d.params d.body d.scope := by
  (refine byEE (G.T.fn d hd) fun a o hr2 => ?_; refine byEE (hr2) fun pm code hr3 => ?_; (try clear hr2); refine byEAAA (hr3) fun doc h1 h2 h3 h4 => ?_; (try clear hr3))
  exact ⟨a, pm, code, doc, h1, fun h g => ⟨⟨o, g _ _ h2, h3⟩, h4.keeps g⟩⟩
noncomputable def freeB (q : Program) (loose : List Str) (x : Str) : Bool := !(startupNames.contains x) && !((looseW q loose).contains x) && !(((recsOf q).map (·.name)).contains x) && !(((litsOf q).map (·.1)).contains x) && !(((clssOf q (looseW q loose)).map (·.name)).contains x) && x != "__name__"
theorem blt_at {q : Program} {loose : List Str} {R : WRecords} {XP : (Str → Option Value) → Heap → Prop} {w : World} {s₀ s₁ : Shared} {mg mb : Str → Option Value} (G : Ground q loose R XP w s₀ mg mb s₁.heap) (prog : Program) (n₀ : Nat) {x : Str} {v : Value} (hx : freeB q loose x = true) (hv : bootBuiltins x = some v) :
    BltAt (baseOf prog w mg mb s₁ n₀) x v := by
  unfold freeB at hx
  simp only [Bool.and_eq_true, Bool.not_eq_true', bne_iff_ne, List.contains_eq_mem, decide_eq_false_iff_not] at hx
  (refine byA (hx) fun hp4 h6 => ?_; (try clear hx); obtain ⟨⟨⟨⟨h1, h2⟩, h3⟩, h4⟩, h5⟩ := hp4)
  exact ⟨G.T.free x h1 h2 h3 h4 h5, hv, h6⟩
end Jv
namespace Jv.L2
open PySem PySem.W PySem.Calls PyProof.Rows
theorem joinT {q : Program} {XP YP} {d : DefRec} {kwd} (hname : d.name = "law") (hdef : d.params = law_args ∧ d.body = law_body ∧ d.scope = law_scope) (hT : ∀ {w : World} {s₀ s₁ : Shared} {mg mb : Str → Option Value} (n₀ : Nat), Ground q [] PySem.Challenge.rw_rt0079_02.row.records XP w s₀ mg mb s₁.heap → (baseOf PySem.Challenge.rw_rt0079_02.row.prog w mg mb s₁ n₀).Ok → Tab9 (baseOf PySem.Challenge.rw_rt0079_02.row.prog w mg mb s₁ n₀) ∧ FnAt (baseOf PySem.Challenge.rw_rt0079_02.row.prog w mg mb s₁ n₀) "law" law_args law_body law_scope) :
    WalkO q [] XP YP PySem.Challenge.rw_rt0079_02.row.toRowW d kwd fun f vs => PySem.call f vs := by
  intro w s₀ s₁ mg mb G y fa o pm cd doc dV kV ho hd hcd hD hmg hg args vals as hpre hlay hrd hwl hlo
  have hw2 := hwl
  wrow_args hpre hlay hrd hwl hlo
  rename_i ns _ _ _ _ _ _ _ la vs _ hL _ _ _ hI _ hlen _
  refine byE (base_ok G PySem.Challenge.rw_rt0079_02.row.prog) fun n₀ O => ?_
  refine byA (hT n₀ G O) fun T FL => ?_
  have hsl : ns.length ≤ sizeLine := Nat.le_trans (by omega : ns.length ≤ 63) (by decide)
  have rm : Room (0 + 10) callerA := ⟨by decide +kernel, by decide +kernel, fun _ => rfl⟩
  have inv : Inv (baseOf PySem.Challenge.rw_rt0079_02.row.prog w mg mb s₁ n₀) callerA s₁ := ⟨fun b o e => e, hg, rfl, [], rfl, fun env m => by cases m⟩
  have ly : Lays (baseOf PySem.Challenge.rw_rt0079_02.row.prog w mg mb s₁ n₀) (fun _ => False) s₁.heap [.list (il ns)] [.ref la] := by
    cases hw2 with
    | cons w1 _ =>
      cases w1 with
      | @list _ vs' _ e _ =>
        simp only [Lays, Lay]
        refine ⟨_, _, rfl, ⟨la, rfl, fun q => q.elim, vs'.toArray, ⟨_, e⟩, ?_⟩, rfl⟩
        (refine byEAAE (hL) fun o2 ho2 hc2 n2 hd2 => ?_; (try clear hL))
        rw [e] at ho2; cases ho2
        simp at hd2
        rw [hd2.1]
        exact lays_intsAre hI
  refine byEA (law_true (k := 0) T FL hsl callerA (fun _ => False) s₁ [.ref la] (fun v s' => GoodWG PySem.Challenge.rw_rt0079_02.row.claim (classAt s₀.heap) (ExcName.means s₀.heap) [ofPy (PyData.list (List.map PyData.int ns))] s₁ (.ok (.ret v)) s') (fun e s' => GoodWG PySem.Challenge.rw_rt0079_02.row.claim (classAt s₀.heap) (ExcName.means s₀.heap) [ofPy (PyData.list (List.map PyData.int ns))] s₁ (.error e) s') rm inv (fun b q => q.elim) ly fun v s' i k l => by
    obtain rfl : v = .bool true := l
    refine ⟨.inl ⟨.bool true, .bool true, [], rfl, fun cls => rfl, .bool true, ?_, fun _ => ⟨List.nodup_nil, fun a m => by cases m⟩⟩, .of_keep i.good, i.os, .of_eq i.gens⟩
    wrow_post) fun fa' hm' H => ?_
  have e : fa' = fa := by
    have h1 : mg "law" = some (.ref fa') := hm'
    rw [hname] at hmg
    rw [hmg] at h1
    cases h1; rfl
  rw [e] at H
  exact H
end Jv.L2
namespace Jv.L2
open PySem PySem.W PySem.Calls PyProof.Rows
noncomputable abbrev DQ := Str × Arguments × List Stmt × Scope
noncomputable def need : List DQ := [⟨"fspath", fspath_args, fspath_body, fspath_scope⟩, ⟨"_get_sep", d_get_sep_args, d_get_sep_body, d_get_sep_scope⟩, ⟨"join", join_args, join_body, join_scope⟩, ⟨"basename", basename_args, basename_body, basename_scope⟩, ⟨"dirname", dirname_args, dirname_body, dirname_scope⟩,
  ⟨"commonpath", commonpath_args, commonpath_body, commonpath_scope⟩, ⟨"sorted_list_difference", sorted_list_difference_args, sorted_list_difference_body, sorted_list_difference_scope⟩, ⟨"_escape_cdata", d_escape_cdata_args, d_escape_cdata_body, d_escape_cdata_scope⟩,
  ⟨"_escape_attrib", d_escape_attrib_args, d_escape_attrib_body, d_escape_attrib_scope⟩, ⟨"_escape_attrib_html", d_escape_attrib_html_args, d_escape_attrib_html_body, d_escape_attrib_html_scope⟩, ⟨"_escape_cdata_c14n", d_escape_cdata_c14n_args, d_escape_cdata_c14n_body, d_escape_cdata_c14n_scope⟩,
  ⟨"_escape_attrib_c14n", d_escape_attrib_c14n_args, d_escape_attrib_c14n_body, d_escape_attrib_c14n_scope⟩, ⟨"_law_drawn", d_law_drawn_args, d_law_drawn_body, d_law_drawn_scope⟩, ⟨"_law_told", d_law_told_args, d_law_told_body, d_law_told_scope⟩, ⟨"_law_written", d_law_written_args, d_law_written_body, d_law_written_scope⟩,
  ⟨"_law_laid", d_law_laid_args, d_law_laid_body, d_law_laid_scope⟩, ⟨"_law_walked", d_law_walked_args, d_law_walked_body, d_law_walked_scope⟩, ⟨"_law_done", d_law_done_args, d_law_done_body, d_law_done_scope⟩, ⟨"_law_all", d_law_all_args, d_law_all_body, d_law_all_scope⟩, ⟨"_law_round", d_law_round_args, d_law_round_body, d_law_round_scope⟩, ⟨"_law_orders", d_law_orders_args, d_law_orders_body, d_law_orders_scope⟩, ⟨"_law_read", d_law_read_args, d_law_read_body, d_law_read_scope⟩, ⟨"law", law_args, law_body, law_scope⟩]
noncomputable def strip (r : DefRec) : DQ := (r.name, r.params, r.body, r.scope)
theorem mem_all {l : List DQ} {m : List DefRec} (ix : List Nat) (h : ix.map (fun i => (m[i]?).map strip) = l.map some) : ∀ d, d ∈ l → ∃ r, r ∈ m ∧ strip r = d := by
  intro d hd
  have : some d ∈ ix.map (fun i => (m[i]?).map strip) := by rw [h]; exact List.mem_map_of_mem hd
  refine byEA (List.mem_map.mp this) fun i _ e => ?_
  refine byEA (Option.map_eq_some_iff.mp e) fun r hr e' => ?_
  exact ⟨r, List.mem_of_getElem? hr, e'⟩
theorem boot_all : ∀ x v, bltOf.lookup x = some v → x ∈ bltOf.map (·.1) ∧ bootBuiltins x = some v := by
  have h : ∀ p, p ∈ bltOf → bootBuiltins p.1 = some p.2 := by
    intro p m
    unfold bltOf at m
    simp only [List.mem_cons, List.not_mem_nil, or_false] at m
    rcases m with rfl | rfl | rfl | rfl | rfl | rfl | rfl | rfl | rfl | rfl | rfl | rfl | rfl | rfl | rfl | rfl | rfl <;> kernel_rfl
  intro x v e
  have m := mem_of_lookup e
  exact ⟨List.mem_map.mpr ⟨_, m, rfl⟩, h _ m⟩
theorem fns_mem : ∀ f p b s, fns.lookup f = some (p, b, s) → ((f, p, b, s) : DQ) ∈ need := by
  intro f p b s e
  have h : [7, 10, 8, 11, 9].map (fun i => need[i]?) = List.map some fns := rfl
  have m := List.mem_map_of_mem (f := some) (mem_of_lookup e)
  rw [← h] at m
  refine byEA (List.mem_map.mp m) fun i _ e => ?_
  exact List.mem_of_getElem? e
theorem tab_of {q : Program} {R : WRecords} {XP : (Str → Option Value) → Heap → Prop} {w : World} {s₀ s₁ : Shared} {mg mb : Str → Option Value} (hm : ∀ d, d ∈ need → ∃ r, r ∈ recsOf q ∧ strip r = d) (hf : (bltOf.map (·.1)).all (freeB q []) = true)
    (prog : Program) (n₀ : Nat) (G : Ground q [] R XP w s₀ mg mb s₁.heap) (O : (baseOf prog w mg mb s₁ n₀).Ok) : Tab9 (baseOf prog w mg mb s₁ n₀) ∧ FnAt (baseOf prog w mg mb s₁ n₀) "law" law_args law_body law_scope := by
  have F : ∀ d : DQ, d ∈ need → FnAt (baseOf prog w mg mb s₁ n₀) d.1 d.2.1 d.2.2.1 d.2.2.2 := fun d m => by
    (refine byEA (hm d m) fun r hr hq1 => ?_; subst hq1)
    exact fn_at G prog n₀ hr
  have mk : ∀ (i : Nat) (d : DQ), need[i]? = some d → FnAt (baseOf prog w mg mb s₁ n₀) d.1 d.2.1 d.2.2.1 d.2.2.2 := fun i d e => F d (List.mem_of_getElem? e)
  refine ⟨?_, mk 22 _ rfl⟩
  exact { O := O, sep := mk 1 _ rfl, fspath := mk 0 _ rfl, join := mk 2 _ rfl, basename := mk 3 _ rfl, dirname := mk 4 _ rfl, commonpath := mk 5 _ rfl, blt := fun x f e => blt_at G prog n₀ (List.all_eq_true.mp hf x (boot_all x f e).1) (boot_all x f e).2,
          fn := fun f p b s e => F _ (fns_mem f p b s e), written := mk 14 _ rfl, told := mk 13 _ rfl, drawn := mk 12 _ rfl, laid := mk 15 _ rfl, walked := mk 16 _ rfl, done := mk 17 _ rfl, all := mk 18 _ rfl, round := mk 19 _ rfl, orders := mk 20 _ rfl, read := mk 21 _ rfl, sld := mk 6 _ rfl }
end Jv.L2
open PySem PySem.W PyProof.Rows
set_option maxHeartbeats 8000000 in
theorem PySem.Challenge.cw_rt0079_02_holds : PySem.Challenge.rw_rt0079_02.Holds := by
  w_on; o_law; o_head Hook.none; (case hw => w_witness2)
  refine Jv.L2.joinT (by kernel_rfl) ?_ (fun n₀ G O => Jv.L2.tab_of (Jv.L2.mem_all [3, 5, 6, 7, 8, 9, 10, 12, 13, 14, 15, 16, 17, 18, 19, 20, 21, 22, 23, 24, 25, 26, 27] (by kernel_rfl)) (by kernel_rfl) _ n₀ G O)
  exact ⟨by kernel_rfl, by kernel_rfl, by kernel_rfl⟩
