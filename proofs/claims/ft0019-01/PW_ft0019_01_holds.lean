import PyProof.Rows.All
import Wide.All
import OpenK.AllK
import Wide.FinOn
import PySem.Challenge.RW_ft0019_01
open PySem PySem.W PySem.Calls PyProof.Rows PySem.Spec
set_option Elab.async false
set_option linter.all false
namespace Mine
section
open PySem PySem.W PyProof.Rows
set_option Elab.async false
set_option maxRecDepth 100000 in
set_option maxHeartbeats 8000000 in
open_top hd for PySem.Challenge.rw_ft0019_01

end
section
open PySem PySem.W PySem.Calls PyProof.Rows PySem.Spec
set_option Elab.async false

abbrev View := Addr → Option Obj
abbrev Dyn := Nat × Nat → Option (Addr × Obj)
def View.put (B : View) (a : Addr) (o : Obj) : View := fun x => if x = a then some o else B x
def Dyn.put (V : Dyn) (i : Nat × Nat) (p : Addr × Obj) : Dyn := fun j => if j = i then some p else V j
def Dyn.del (V : Dyn) (i : Nat × Nat) : Dyn := fun j => if j = i then none else V j
def View.le (B B' : View) : Prop := ∀ a o, B a = some o → B' a = some o
theorem View.le.refl (B : View) : B.le B := fun _ _ e => e
theorem View.le.trans {B B' B'' : View} (x : B.le B') (y : B'.le B'') : B.le B'' := fun a o e => y a o (x a o e)

theorem vput_le {B : View} {a : Addr} {o : Obj} (h : B a = none) : B.le (B.put a o) := fun b p e => by
  unfold View.put; rw [if_neg (fun q => by rw [q, h] at e; cases e)]; exact e

structure Same (s₀ s : Shared) : Prop where
  gens : s.gens = s₀.gens
  drawn : s.drawn = s₀.drawn
  os : s.os = s₀.os

structure Fz (s₀ : Shared) (R Z B : View) (V : Dyn) (s : Shared) : Prop where
  r : ∀ a o, R a = some o → s.heap.get? a = some o
  b : ∀ a o, B a = some o → s.heap.get? a = some o ∧ R a = none
  v : ∀ i a o, V i = some (a, o) → s.heap.get? a = some o ∧ R a = none ∧ B a = none
  inj : ∀ i j a o o', V i = some (a, o) → V j = some (a, o') → i = j
  same : Same s₀ s
  z : Z.le B

structure St (s₀ : Shared) (R Z B : View) (V : Dyn) (L : Addr) (m : Str → Option Value) (s : Shared) : Prop extends Fz s₀ R Z B V s where
  ns : s.heap.Ns L m
  lR : R L = none
  lB : B L = none
  lV : ∀ i o, V i ≠ some (L, o)

section
variable {s₀ s s' : Shared} {R Z B : View} {V : Dyn} {L a : Addr} {m : Str → Option Value} {o o' : Obj} {h' : Heap} {tk : Nat} {i : Nat × Nat}

theorem get_fresh (h : Heap) : h.get? h.objs.size = none := by
  cases e : h.get? h.objs.size with
  | none => rfl
  | some o => exact absurd (Heap.lt_size e) (Nat.lt_irrefl _)

theorem Same.up (x : Same s₀ s) : Same s₀ { s with heap := h', toks := tk } := ⟨x.gens, x.drawn, x.os⟩

theorem Fz.keep (F : Fz s₀ R Z B V s) (k : ∀ b o, s.heap.get? b = some o → h'.get? b = some o) : Fz s₀ R Z B V { s with heap := h', toks := tk } :=
  ⟨fun a o e => k _ _ (F.r a o e), fun a o e => ⟨k _ _ (F.b a o e).1, (F.b a o e).2⟩, fun i a o e => ⟨k _ _ (F.v i a o e).1, (F.v i a o e).2⟩, F.inj, F.same.up, F.z⟩
theorem Fz.fresh (F : Fz s₀ R Z B V s) (n : s.heap.get? a = none) : R a = none ∧ B a = none ∧ ∀ i o, V i ≠ some (a, o) := by
  refine ⟨?_, ?_, fun i o e => ?_⟩
  · cases e : R a with
    | none => rfl
    | some o => have := F.r a o e; rw [n] at this; cases this
  · cases e : B a with
    | none => rfl
    | some o => have := (F.b a o e).1; rw [n] at this; cases this
  · have := (F.v i a o e).1; rw [n] at this; cases this

/-- a new object, of the kept part -/
theorem Fz.newB (F : Fz s₀ R Z B V s) (n : s.heap.get? a = none) (k : ∀ b o, s.heap.get? b = some o → h'.get? b = some o) (ho : h'.get? a = some o) :
    Fz s₀ R Z (B.put a o) V { s with heap := h', toks := tk } := by
  obtain ⟨fR, fB, fV⟩ := F.fresh n
  refine ⟨fun a o e => k _ _ (F.r a o e), fun b p e => ?_, fun i b p e => ⟨k _ _ (F.v i b p e).1, (F.v i b p e).2.1, ?_⟩, F.inj, F.same.up, F.z.trans (vput_le fB)⟩
  · unfold View.put at e
    split at e
    · rename_i h; subst h; cases e; exact ⟨ho, fR⟩
    · exact ⟨k _ _ (F.b b p e).1, (F.b b p e).2⟩
  · unfold View.put
    split
    · rename_i h; subst h; exact absurd e (fV i p)
    · exact (F.v i b p e).2.2
/-- a new object, of the turned part -/
theorem Fz.newV (F : Fz s₀ R Z B V s) (n : s.heap.get? a = none) (k : ∀ b o, s.heap.get? b = some o → h'.get? b = some o) (ho : h'.get? a = some o) :
    Fz s₀ R Z B (V.put i (a, o)) { s with heap := h', toks := tk } := by
  obtain ⟨fR, fB, fV⟩ := F.fresh n
  refine ⟨fun a o e => k _ _ (F.r a o e), fun a o e => ⟨k _ _ (F.b a o e).1, (F.b a o e).2⟩, fun j b p e => ?_, fun j j' b p p' e e' => ?_, F.same.up, F.z⟩
  · unfold Dyn.put at e
    split at e
    · cases e; exact ⟨ho, fR, fB⟩
    · exact ⟨k _ _ (F.v j b p e).1, (F.v j b p e).2⟩
  · unfold Dyn.put at e e'
    split at e <;> split at e'
    · rename_i h1 h2; rw [h1, h2]
    · cases e; exact absurd e' (fV j' p')
    · cases e'; exact absurd e (fV j p)
    · exact F.inj j j' b p p' e e'
/-- an object of the turned part, changed -/
theorem Fz.updV (F : Fz s₀ R Z B V s) (hv : V i = some (a, o)) (hs : Heap.SameBut a s.heap h') (ho : h'.get? a = some o') :
    Fz s₀ R Z B (V.put i (a, o')) { s with heap := h', toks := tk } := by
  obtain ⟨_, aR, aB⟩ := F.v i a o hv
  refine ⟨fun b p e => ?_, fun b p e => ⟨?_, (F.b b p e).2⟩, fun j b p e => ?_, fun j j' b p p' e e' => ?_, F.same.up, F.z⟩
  · exact (hs.2 b (fun h => by rw [h, aR] at e; cases e)).trans (F.r b p e)
  · exact (hs.2 b (fun h => by rw [h, aB] at e; cases e)).trans (F.b b p e).1
  · unfold Dyn.put at e
    split at e
    · cases e; exact ⟨ho, aR, aB⟩
    · rename_i hj
      exact ⟨(hs.2 b (fun h => by subst h; exact hj (F.inj j i _ _ _ e hv))).trans (F.v j b p e).1, (F.v j b p e).2⟩
  · unfold Dyn.put at e e'
    split at e <;> split at e'
    · rename_i h1 h2; rw [h1, h2]
    · rename_i h1 h2; cases e; exact absurd (F.inj j' i _ _ _ e' hv) h2
    · rename_i h1 h2; cases e'; exact absurd (F.inj j i _ _ _ e hv) h1
    · exact F.inj j j' b p p' e e'
theorem Fz.dropV (F : Fz s₀ R Z B V s) {V' : Dyn} (h : ∀ i p, V' i = some p → V i = some p) : Fz s₀ R Z B V' s :=
  ⟨F.r, F.b, fun i a o e => F.v i a o (h _ _ e), fun i j a o o' e e' => F.inj i j a o o' (h _ _ e) (h _ _ e'), F.same, F.z⟩
/-- from the turned part to the kept part, for good -/
theorem Fz.settle (F : Fz s₀ R Z B V s) (hv : V i = some (a, o)) : Fz s₀ R Z (B.put a o) (V.del i) s := by
  obtain ⟨ha, aR, aB⟩ := F.v i a o hv
  refine ⟨F.r, fun b p e => ?_, fun j b p e => ?_, fun j j' b p p' e e' => ?_, F.same, F.z.trans (vput_le (F.v i a o hv).2.2)⟩
  · unfold View.put at e
    split at e
    · rename_i h; subst h; cases e; exact ⟨ha, aR⟩
    · exact F.b b p e
  · unfold Dyn.del at e
    split at e
    · cases e
    · rename_i hj
      refine ⟨(F.v j b p e).1, (F.v j b p e).2.1, ?_⟩
      unfold View.put
      split
      · rename_i h; subst h; exact absurd (F.inj j i _ _ _ e hv) hj
      · exact (F.v j b p e).2.2
  · unfold Dyn.del at e e'
    split at e
    · cases e
    · split at e'
      · cases e'
      · exact F.inj j j' b p p' e e'

theorem St.keep (F : St s₀ R Z B V L m s) (k : ∀ b o, s.heap.get? b = some o → h'.get? b = some o) : St s₀ R Z B V L m { s with heap := h', toks := tk } :=
  ⟨F.toFz.keep k, F.ns.keeps k, F.lR, F.lB, F.lV⟩
theorem St.toks (F : St s₀ R Z B V L m s) : St s₀ R Z B V L m { s with toks := tk } := F.keep fun _ _ e => e
theorem St.ne_fresh (F : St s₀ R Z B V L m s) (n : s.heap.get? a = none) : L ≠ a := by
  obtain ⟨o, _, _, ho, _⟩ := F.ns
  rintro rfl; rw [n] at ho; cases ho
theorem St.newB (F : St s₀ R Z B V L m s) (n : s.heap.get? a = none) (k : ∀ b o, s.heap.get? b = some o → h'.get? b = some o) (ho : h'.get? a = some o) :
    St s₀ R Z (B.put a o) V L m { s with heap := h', toks := tk } :=
  ⟨F.toFz.newB n k ho, F.ns.keeps k, F.lR, by unfold View.put; rw [if_neg (F.ne_fresh n)]; exact F.lB, F.lV⟩
theorem St.newV (F : St s₀ R Z B V L m s) (n : s.heap.get? a = none) (k : ∀ b o, s.heap.get? b = some o → h'.get? b = some o) (ho : h'.get? a = some o) :
    St s₀ R Z B (V.put i (a, o)) L m { s with heap := h', toks := tk } :=
  ⟨F.toFz.newV n k ho, F.ns.keeps k, F.lR, F.lB, fun j p e => by
    unfold Dyn.put at e
    split at e
    · cases e; exact F.ne_fresh n rfl
    · exact F.lV j p e⟩
theorem St.updV (F : St s₀ R Z B V L m s) (hv : V i = some (a, o)) (hs : Heap.SameBut a s.heap h') (ho : h'.get? a = some o') :
    St s₀ R Z B (V.put i (a, o')) L m { s with heap := h', toks := tk } :=
  ⟨F.toFz.updV hv hs ho, F.ns.sameBut hs (fun h => F.lV i o (by rw [h]; exact hv)), F.lR, F.lB, fun j p e => by
    unfold Dyn.put at e
    split at e
    · cases e; exact F.lV i o hv
    · exact F.lV j p e⟩
theorem St.dropV (F : St s₀ R Z B V L m s) {V' : Dyn} (h : ∀ i p, V' i = some p → V i = some p) : St s₀ R Z B V' L m s :=
  ⟨F.toFz.dropV h, F.ns, F.lR, F.lB, fun i o e => F.lV i o (h _ _ e)⟩
theorem St.settle (F : St s₀ R Z B V L m s) (hv : V i = some (a, o)) : St s₀ R Z (B.put a o) (V.del i) L m s :=
  ⟨F.toFz.settle hv, F.ns, F.lR, by unfold View.put; rw [if_neg (fun h : L = a => F.lV i o (by rw [h]; exact hv))]; exact F.lB, fun j p e => by
    unfold Dyn.del at e
    split at e
    · cases e
    · exact F.lV j p e⟩
theorem St.setL {m' : Str → Option Value} (F : St s₀ R Z B V L m s) (hn : h'.Ns L m') (hs : Heap.SameBut L s.heap h') : St s₀ R Z B V L m' { s with heap := h', toks := tk } :=
  ⟨⟨fun b p e => (hs.2 b (fun h => by rw [h, F.lR] at e; cases e)).trans (F.r b p e),
    fun b p e => ⟨(hs.2 b (fun h => by rw [h, F.lB] at e; cases e)).trans (F.b b p e).1, (F.b b p e).2⟩,
    fun i b p e => ⟨(hs.2 b (fun h => by rw [h] at e; exact F.lV i p e)).trans (F.v i b p e).1, (F.v i b p e).2⟩, F.inj, F.same.up, F.z⟩, hn, F.lR, F.lB, F.lV⟩

theorem le_none {B B' : View} (h : B.le B') {a : Addr} (e : B' a = none) : B a = none := by
  cases q : B a with
  | none => rfl
  | some o => rw [h _ _ q] at e; cases e
theorem Fz.dropB {B' : View} (F : Fz s₀ R Z B' V s) (h : B.le B') (hz : Z.le B) : Fz s₀ R Z B V s :=
  ⟨F.r, fun a o e => F.b a o (h _ _ e), fun i a o e => ⟨(F.v i a o e).1, (F.v i a o e).2.1, le_none h (F.v i a o e).2.2⟩, F.inj, F.same, hz⟩
theorem St.dropB {B' : View} (F : St s₀ R Z B' V L m s) (h : B.le B') (hz : Z.le B) : St s₀ R Z B V L m s :=
  ⟨F.toFz.dropB h hz, F.ns, F.lR, le_none h F.lB, F.lV⟩

/-- all that is not told -/
noncomputable def restOf (h : Heap) (B : View) (V : Dyn) : View := fun a =>
  open Classical in if (B a = none ∧ ∀ i o, V i ≠ some (a, o)) then h.get? a else none
theorem restOf_some {h : Heap} {b : Addr} {p : Obj} (e : restOf h B V b = some p) : h.get? b = some p ∧ B b = none ∧ ∀ i o, V i ≠ some (b, o) := by
  unfold restOf at e
  split at e
  · rename_i x; exact ⟨e, x⟩
  · cases e
theorem restOf_of {h : Heap} {b : Addr} {p : Obj} (e : h.get? b = some p) (h1 : B b = none) (h2 : ∀ i o, V i ≠ some (b, o)) : restOf h B V b = some p := by
  unfold restOf; rw [if_pos ⟨h1, h2⟩]; exact e
theorem restOf_none_B {h : Heap} {b : Addr} {p : Obj} (e : B b = some p) : restOf h B V b = none := by
  unfold restOf; rw [if_neg (fun x => by rw [x.1] at e; cases e)]
theorem restOf_none_V {h : Heap} {b : Addr} {p : Obj} (e : V i = some (b, p)) : restOf h B V b = none := by
  unfold restOf; rw [if_neg (fun x => x.2 i p e)]

theorem St.inner (F : St s₀ R Z B V L m s) : Fz s₀ (restOf s.heap B V) B B V s :=
  ⟨fun a o e => (restOf_some e).1, fun a o e => ⟨(F.b a o e).1, restOf_none_B e⟩, fun i a o e => ⟨(F.v i a o e).1, restOf_none_V e, (F.v i a o e).2.2⟩, F.inj, F.same, View.le.refl B⟩
theorem St.outer {B' : View} {V' : Dyn} (F : St s₀ R Z B V L m s) (F' : Fz s₀ (restOf s.heap B V) B B' V' s') : St s₀ R Z B' V' L m s' := by
  have hR : ∀ a o, R a = some o → restOf s.heap B V a = some o := fun a o e => by
    refine restOf_of (F.r a o e) ?_ fun i p q => ?_
    · cases q : B a with
      | none => rfl
      | some p => have := (F.b a p q).2; rw [e] at this; cases this
    · have := (F.v i a p q).2.1; rw [e] at this; cases this
  obtain ⟨oL, es, ep, hL, r⟩ := id F.ns
  have rL := restOf_of hL F.lB F.lV
  have key : ∀ a o, restOf s.heap B V a = some o → B' a = none ∧ ∀ i p, V' i ≠ some (a, p) := fun a o e => by
    refine ⟨?_, fun i p q => ?_⟩
    · cases q : B' a with
      | none => rfl
      | some p => have := (F'.b a p q).2; rw [e] at this; cases this
    · have := (F'.v i a p q).2.1; rw [e] at this; cases this
  refine ⟨⟨fun a o e => F'.r a o (hR a o e), fun a o e => ⟨(F'.b a o e).1, ?_⟩, fun i a o e => ⟨(F'.v i a o e).1, ?_, (F'.v i a o e).2.2⟩, F'.inj, F'.same, F.z.trans F'.z⟩, ⟨oL, es, ep, F'.r _ _ rL, r⟩, F.lR, (key _ _ rL).1, (key _ _ rL).2⟩
  · cases q : R a with
    | none => rfl
    | some p => have := (key a p (hR a p q)).1; rw [e] at this; cases this
  · cases q : R a with
    | none => rfl
    | some p => exact absurd e ((key a p (hR a p q)).2 i o)
end

@[simp] theorem put_self (V : Dyn) (i) (p) : (V.put i p) i = some p := if_pos rfl
theorem put_other (V : Dyn) {i j : Nat × Nat} (p) (h : j ≠ i) : (V.put i p) j = V j := if_neg h
@[simp] theorem vput_self (B : View) (a o) : (B.put a o) a = some o := if_pos rfl

end
section
open PySem PySem.W PySem.Calls PyProof.Rows PySem.Spec
set_option Elab.async false
set_option maxRecDepth 100000

def View.Ns (B : View) (a : Addr) (m : Str → Option Value) : Prop := ∃ o es ep, B a = some o ∧ o.data = .dict es ep ∧ StrKeys es ∧ ∀ name, nsFind es name = m name

structure Cx (w : World) (mg mb : Str → Option Value) (B : View) : Prop where
  k : ∀ a o, (hd.heap_39 w.params).lookup a = some o → B a = some o
  g : B.Ns mainGlobals mg
  b : B.Ns builtinsNs mb
  lim : ∃ mc, B.Ns cStatics mc ∧ mc "sys.recursionlimit" = none
  bi : ∀ x : Str, x ≠ "__name__" → mb x = bootBuiltins x

theorem View.Ns.le {B B' : View} {a m} (x : B.Ns a m) (h : B.le B') : B'.Ns a m := let ⟨o, es, ep, e, r⟩ := x; ⟨o, es, ep, h _ _ e, r⟩
theorem Cx.le {w mg mb} {B B' : View} (C : Cx w mg mb B) (h : B.le B') : Cx w mg mb B' :=
  ⟨fun a o e => h _ _ (C.k a o e), C.g.le h, C.b.le h, let ⟨mc, a, b⟩ := C.lim; ⟨mc, a.le h, b⟩, C.bi⟩

def At (B : View) (V : Dyn) (a : Addr) (o : Obj) : Prop := B a = some o ∨ ∃ i, V i = some (a, o)
theorem At.ofB {B : View} {V : Dyn} {a : Addr} {o : Obj} (h : B a = some o) : At B V a o := .inl h
theorem At.ofV {B : View} {V : Dyn} {a : Addr} {o : Obj} {i} (h : V i = some (a, o)) : At B V a o := .inr ⟨i, h⟩

section
variable {s₀ s s' : Shared} {R Z B : View} {V : Dyn} {L a : Addr} {m : Str → Option Value} {o o' : Obj} {w : World} {mg mb : Str → Option Value}
theorem View.Ns.get (x : Z.Ns a m) (F : Fz s₀ R Z B V s) : s.heap.Ns a m := let ⟨o, es, ep, e, r⟩ := x; ⟨o, es, ep, (F.b _ _ (F.z _ _ e)).1, r⟩
theorem Cx.kin (C : Cx w mg mb Z) (F : Fz s₀ R Z B V s) : (hd.heap_39 w.params).In s.heap := fun a o e => (F.b a o (F.z _ _ (C.k a o e))).1
theorem Cx.nolim (C : Cx w mg mb Z) (F : Fz s₀ R Z B V s) : s.heap.NoLimit := let ⟨mc, a, b⟩ := C.lim; ⟨mc, a.get F, b⟩
theorem At.get (h : At B V a o) (F : Fz s₀ R Z B V s) : s.heap.get? a = some o := h.elim (fun e => (F.b _ _ e).1) fun ⟨i, e⟩ => (F.v i _ _ e).1
end

/-- how deep -/
structure Lv (n : Nat) (A : Around) : Prop where
  h : A.handled = none
  d : A.depth + 10 * n ≤ 900
  u : A.units + 100 * n ≤ 9000
theorem Lv.in1 {n : Nat} {A : Around} (x : Lv (n + 1) A) : Lv n A.in1 := ⟨x.h, by have := x.d; show A.depth + _ ≤ _; omega, by have := x.u; show A.units + 1 + _ ≤ _; omega⟩
theorem Lv.mono {n k : Nat} {A : Around} (x : Lv n A) (h : k ≤ n := by omega) : Lv k A := ⟨x.h, by have := x.d; omega, by have := x.u; omega⟩
theorem Lv.deeper {n : Nat} {A : Around} {env : Env} (x : Lv (n + 1) A) : Lv n (A.deeper env) := ⟨x.h, by have := x.d; show A.depth + 1 + _ ≤ _; omega, by have := x.u; show A.units + 3 + _ ≤ _; omega⟩
theorem Lv.room {n : Nat} {A : Around} (x : Lv n A) : A.depth < recursionLimit := by have := x.d; show A.depth < 1000; omega
theorem Lv.units {n : Nat} {A : Around} (x : Lv n A) : A.units < cLine := by have := x.u; show A.units < 9900; omega

section
variable {prog : Program} {w : World} {A : Around} {E : Value → Shared → Prop} {s₀ s : Shared} {R Z B : View} {V : Dyn} {L a c : Addr} {m mg mb : Str → Option Value} {env : Env} {x : Str} {pos : Pos} {v : Value} {o : Obj} {Q : Value → Shared → Prop}

theorem x_loc (F : St s₀ R Z B V L m s) (hv : m x = some v) (h : Q v s) (hL : env.locals = L := by rfl) (hk : env.scope.kind = .function := by rfl) (hx : env.kindOf x = some .local := by rfl) (hd : (x == ("__debug__" : Str)) = false := by decide) :
    wpAny (model prog w) A (eval (.Name x pos) env) Q E s := wpAny_Name (wpAny_loadName_local hk hx (hL ▸ F.ns) hv h) hd
theorem x_cell (F : St s₀ R Z B V L m s) (hc : env.cells.lookup x = some c) (ho : At B V c o) (hd' : o.data = .cell (some v)) (h : Q v s) (hk : env.scope.kind = .function := by rfl) (hx : env.kindOf x = some .cell := by rfl) (hd : (x == ("__debug__" : Str)) = false := by decide) :
    wpAny (model prog w) A (eval (.Name x pos) env) Q E s := wpAny_Name (wpAny_loadName_cell hk hx hc ⟨o, ho.get F.toFz, hd'⟩ h) hd
theorem x_free (F : St s₀ R Z B V L m s) (hc : env.cells.lookup x = some c) (ho : At B V c o) (hd' : o.data = .cell (some v)) (h : Q v s) (hk : env.scope.kind = .function := by rfl) (hx : env.kindOf x = some .free := by rfl) (hd : (x == ("__debug__" : Str)) = false := by decide) (hn : (x == ("__classdict__" : Str)) = false := by decide) :
    wpAny (model prog w) A (eval (.Name x pos) env) Q E s := wpAny_Name (wpAny_loadName_free hk hx hc ⟨o, ho.get F.toFz, hd'⟩ h hn) hd
theorem x_glob (F : St s₀ R Z B V L m s) (C : Cx w mg mb Z) (e : nsIn (hd.heap_39 w.params) mainGlobals x = some (some v)) (h : Q v s) (hg : env.globals = mainGlobals := by rfl) (hk : env.scope.kind = .function := by rfl) (hx : env.kindOf x = some .globalImplicit := by rfl) (hd : (x == ("__debug__" : Str)) = false := by decide) :
    wpAny (model prog w) A (eval (.Name x pos) env) Q E s :=
  have G : s.heap.Ns mainGlobals mg := C.g.get F.toFz
  Name_function_global hk hx (loadGlobal_global (hg ▸ G) (mg_of (C.kin F.toFz) G e) h) hd
theorem x_bi (F : St s₀ R Z B V L m s) (C : Cx w mg mb Z) (e : nsIn (hd.heap_39 w.params) mainGlobals x = some none) (hv : bootBuiltins x = some v) (hn : x ≠ "__name__") (h : Q v s) (hg : env.globals = mainGlobals := by rfl) (hb : env.builtins = builtinsNs := by rfl) (hk : env.scope.kind = .function := by rfl) (hx : env.kindOf x = some .globalImplicit := by rfl) (hd : (x == ("__debug__" : Str)) = false := by decide) :
    wpAny (model prog w) A (eval (.Name x pos) env) Q E s :=
  have G : s.heap.Ns mainGlobals mg := C.g.get F.toFz
  have Gb : s.heap.Ns builtinsNs mb := C.b.get F.toFz
  Name_function_global hk hx (loadGlobal_builtin (hg ▸ G) (mg_none_of (C.kin F.toFz) G e) (hb ▸ Gb) ((C.bi x hn).trans hv) h) hd

theorem x_int {i : Int} {k : Nat} (F : St s₀ R Z B V L m s) (h : ∀ t s', St s₀ R Z B V L m s' → Q (.int i t) s') : wpAny (model prog w) A (eval (.Constant (.int i) k pos) env) Q E s :=
  wpAny_Constant_int (h _ _ F.toks)
theorem x_str {i : Str} {k : Nat} (F : St s₀ R Z B V L m s) (h : ∀ t s', St s₀ R Z B V L m s' → Q (.str i t) s') : wpAny (model prog w) A (eval (.Constant (.str i) k pos) env) Q E s :=
  Constant_str (h _ _ F.toks)
theorem x_bool {i : Bool} {k : Nat} (h : Q (.bool i) s) : wpAny (model prog w) A (eval (.Constant (.bool i) k pos) env) Q E s := fun _ _ _ => h
theorem x_none {k : Nat} (h : Q .none s) : wpAny (model prog w) A (eval (.Constant .none k pos) env) Q E s := fun _ _ _ => h

/-- storing a local name -/
theorem e_st (F : St s₀ R Z B V L m s) {Q : Unit → Shared → Prop} (h : ∀ s', St s₀ R Z B V L (fun y => if y = x then some v else m y) s' → Q () s') (hL : env.locals = L := by rfl) (hk : env.scope.kind = .function := by rfl) (hx : env.kindOf x = some .local := by rfl) :
    wpAny (model prog w) A (storeName env x v) Q E s :=
  wpAny_storeName_local hx (hL ▸ F.ns) (fun h' hn hs => h _ (F.setL (hL ▸ hn) (hL ▸ hs))) (by rw [hk]; rfl)
theorem e_stC {i : Nat × Nat} {v₀ : Option Value} (F : St s₀ R Z B V L m s) {Q : Unit → Shared → Prop} (hc : env.cells.lookup x = some c) (hV : V i = some (c, o)) (hd : o.data = .cell v₀)
    (h : ∀ o' s', o'.data = .cell (some v) → St s₀ R Z B (V.put i (c, o')) L m s' → Q () s') (hk : env.scope.kind = .function := by rfl) (hx : env.kindOf x = some .cell := by rfl) :
    wpAny (model prog w) A (storeName env x v) Q E s :=
  wpAny_storeName_cell hk hx hc ⟨o, (F.v i c o hV).1, hd⟩ fun h' ⟨o', ho', hd'⟩ hs => h o' _ hd' (F.updV hV hs ho')
end

/-! instances -/
inductive Keyed : List DictEntry → List (Str × Value) → Prop
  | nil : Keyed [] []
  | cons {e : DictEntry} {es x v fs t} : e.key = .str x t → e.val = v → Keyed es fs → Keyed (e :: es) ((x, v) :: fs)
theorem Keyed.look {es fs} (k : Keyed es fs) (name : Str) : getL name es = some (fs.lookup name) := by
  have hr : es.any (·.refKey) = false := by
    induction k with
    | nil => rfl
    | cons e1 e2 _ ih => rw [List.any_cons, ih]; simp [DictEntry.refKey, e1]
  unfold getL
  rw [hr]
  induction k with
  | nil => rfl
  | @cons e es x v fs t e1 e2 _ ih =>
    have hr' : es.any (·.refKey) = false := by rw [List.any_cons] at hr; exact (Bool.or_eq_false_iff.mp hr).2
    have ih := ih hr'
    rw [List.find?_cons, List.lookup_cons, e1]
    by_cases h : name = x
    · subst h; simp [Value.isStr, e2]
    · have h1 : (x == name) = false := by simpa using fun q => h q.symm
      have h2 : (name == x) = false := by simpa using h
      simp only [Value.isStr, h1, h2]
      exact ih
structure Inst (B : View) (V : Dyn) (x C : Addr) (fs : List (Str × Value)) : Prop where
  ex : ∃ dx es n, At B V x (instObj C dx) ∧ At B V dx (dictOf es n) ∧ Keyed es fs

def attrOk (K : Frag) (C : Addr) (name : Str) : Bool := plainGet K C name && hasDictIn K C && findIn K (.ref C) name == some none
def methOk (K : Frag) (C : Addr) (name : Str) (f : Addr) : Bool := plainGet K C name && findIn K (.ref C) name == some (some (.ref f)) && typeIn K (.ref f) == some (.type "function")

section
variable {prog : Program} {w : World} {A : Around} {E : Value → Shared → Prop} {s₀ s : Shared} {R Z B : View} {V : Dyn} {L a c C : Addr} {m mg mb : Str → Option Value} {env : Env} {x : Addr} {name : Str} {pos : Pos} {v : Value} {o : Obj} {fs : List (Str × Value)}
theorem Inst.le {B' : View} (I : Inst B V x C fs) (hB : B.le B') : Inst B' V x C fs := by
  obtain ⟨dx, es, n, h1, h2, k⟩ := I.ex
  exact ⟨dx, es, n, h1.imp (hB _ _) id, h2.imp (hB _ _) id, k⟩
theorem g_attr {expr : Bool} {Q : Value → Shared → Prop} (F : St s₀ R Z B V L m s) (Cc : Cx w mg mb Z) (I : Inst B V x C fs) (hn : attrOk (hd.heap_39 w.params) C name = true) (hv : fs.lookup name = some v) (hh : handedIn v = true) (h : ∀ s', St s₀ R Z B V L m s' → Q v s') :
    wpAny (model prog w) A (getAttr (.ref x) name expr) Q E s := by
  obtain ⟨dx, es, n, h1, h2, k⟩ := I.ex
  unfold attrOk at hn
  simp only [Bool.and_eq_true, beq_iff_eq] at hn
  have I' : InstAt s.heap x (instObj C dx) C (some (dictOf es n)) := ⟨h1.get F.toFz, rfl, rfl, h2.get F.toFz⟩
  exact get_value (Cc.kin F.toFz) I' (plainGet_of hn.1.1).1 (findObj_own hn.1.2 hn.2 rfl (by rw [lookIn_dict, k.look, hv])) hh (h _ F.toks)
theorem g_meth {f : Addr} {pl : Sem Bool} {Q : Value × List Value → Shared → Prop} (F : St s₀ R Z B V L m s) (Cc : Cx w mg mb Z) (I : Inst B V x C fs) (hn : methOk (hd.heap_39 w.params) C name f = true) (hv : fs.lookup name = none) (h : Q (.ref f, [.ref x]) s) :
    wpAny (model prog w) A (getMethod (.ref x) name pl) Q E s := by
  obtain ⟨dx, es, n, h1, h2, k⟩ := I.ex
  unfold methOk at hn
  simp only [Bool.and_eq_true, beq_iff_eq] at hn
  have I' : InstAt s.heap x (instObj C dx) C (some (dictOf es n)) := ⟨h1.get F.toFz, rfl, rfl, h2.get F.toFz⟩
  exact method_fn (Cc.kin F.toFz) I' (plainGet_of hn.1.1).1 (plainGet_of hn.1.1).2 hn.1.2 hn.2 (by show (lookIn name (dictOf es n)).map _ = _; rw [lookIn_dict, k.look, hv]; rfl) h
end

end
section
open PySem PySem.W PySem.Calls PyProof.Rows PySem.Spec
set_option Elab.async false
set_option maxRecDepth 100000
section
variable {prog : Program} {w : World} {A : Around} {E : Value → Shared → Prop} {s₀ s : Shared} {R Z B : View} {V : Dyn} {L a c C : Addr} {m mg mb : Str → Option Value} {env : Env} {x : Addr} {name : Str} {pos : Pos} {v : Value} {o : Obj} {fs : List (Str × Value)} {n : Nat}

theorem St.enter {L' : Addr} {m' : Str → Option Value} {h₁ : Heap} {tk : Nat} (F : St s₀ R Z B V L m s) (hn : s.heap.get? L' = none) (hns : h₁.Ns L' m') (k : ∀ b o, s.heap.get? b = some o → h₁.get? b = some o) :
    St s₀ (restOf s.heap B V) B B V L' m' { s with heap := h₁, toks := tk } ∧
      ∀ B' V' m'' s'', St s₀ (restOf s.heap B V) B B' V' L' m'' s'' → St s₀ R Z B' V' L m s'' := by
  have I := F.inner
  obtain ⟨fR, fB, fV⟩ := I.fresh hn
  exact ⟨⟨I.keep k, hns, fR, fB, fV⟩, fun B' V' m'' s'' F' => F.outer F'.toFz⟩

theorem get_size_none (h : Heap) {a : Addr} (ha : h.objs.size ≤ a) : h.get? a = none := by
  cases e : h.get? a with
  | none => rfl
  | some o => exact absurd (Heap.lt_size e) (Nat.not_lt.mpr ha)

def retOf : Flow → Value
  | .ret v => v
  | _ => .none
theorem call_fnA {R'' : Result → Shared → Prop} {f : Addr} {oc : Value} {od : Option Addr} {osl : Array (Option Value)} {nm qual : Str} {params : Arguments} {body : List Stmt} {scope : Scope} {dV kV doc pm cdv ct : Value} {an : Option Addr} {args : List Value} {binds : List (Str × Value)}
    (F : St s₀ R Z B V L m s) (Cc : Cx w mg mb Z) (hA : Lv n A)
    (ho : List.lookup f (hd.heap_39 w.params) = some ⟨oc, od, .func (fnOf nm qual params body scope dV kV doc pm an cdv ct), osl⟩)
    (hcd : codeIn (hd.heap_39 w.params) cdv qual = true)
    (hbind : BindsTo s (fnOf nm qual params body scope dV kV doc pm an cdv ct) ⟨args, []⟩ binds) (hloc : ∀ y ∈ binds, scope.names.lookup y.1 = some .local)
    (h : ∀ R' L' s', St s₀ R' B B V L' (fun y => binds.reverse.lookup y) s' → Cx w mg mb B → (∀ B' V' m' s'', St s₀ R' B B' V' L' m' s'' → St s₀ R Z B' V' L m s'') →
      wpAny (model prog w) (A.deeper (envX qual scope L' f cdv [])) (execs body (envX qual scope L' f cdv [])) (fun fl s'' => R'' (.ok (.ret (retOf fl))) s'') (fun _ _ => False) s')
    (hcell : ∀ x ∈ scope.names, x.2 ≠ .cell := by decide) (hco : scope.isCoroutine = false := by rfl) (hgen : scope.isGenerator = false := by rfl) (hk : scope.kind = .function := by rfl) :
    codeAny (model prog w) A (.call (.ref f) ⟨args, []⟩) R'' s := by
  have X := Cc.kin F.toFz
  refine codeAny_call_def (fd := fnOf nm qual params body scope dV kV doc pm an cdv ct) (body := body) (binds := binds) hA.room (X _ _ ho) rfl (Cc.nolim F.toFz) (codeRec_of X hcd) rfl hbind hcell hloc (fun h₁ hns k => ?_) hco hgen hk
  obtain ⟨F', back⟩ := F.enter (tk := s.toks + binds.length) (get_size_none _ (Nat.le_refl _)) hns k
  refine wpAny_mono (h _ _ _ F' (Cc.le F.z) back) (fun fl s'' q => ?_) fun _ _ e => e.elim
  cases fl <;> exact q

theorem call_fn {f : Addr} {oc : Value} {od : Option Addr} {osl : Array (Option Value)} {nm qual : Str} {params : Arguments} {body : List Stmt} {scope : Scope} {dV kV doc pm cdv ct : Value} {an : Option Addr} {args : List Value} {binds : List (Str × Value)} {Q : Value → Shared → Prop}
    (F : St s₀ R Z B V L m s) (Cc : Cx w mg mb Z) (hA : Lv n A)
    (ho : List.lookup f (hd.heap_39 w.params) = some ⟨oc, od, .func (fnOf nm qual params body scope dV kV doc pm an cdv ct), osl⟩)
    (hcd : codeIn (hd.heap_39 w.params) cdv qual = true)
    (hbind : BindsTo s (fnOf nm qual params body scope dV kV doc pm an cdv ct) ⟨args, []⟩ binds) (hloc : ∀ y ∈ binds, scope.names.lookup y.1 = some .local)
    (h : ∀ R' L' s', St s₀ R' B B V L' (fun y => binds.reverse.lookup y) s' → Cx w mg mb B → (∀ B' V' m' s'', St s₀ R' B B' V' L' m' s'' → St s₀ R Z B' V' L m s'') →
      wpAny (model prog w) (A.deeper (envX qual scope L' f cdv [])) (execs body (envX qual scope L' f cdv [])) (fun fl s'' => Q (retOf fl) s'') (fun _ _ => False) s')
    (hcell : ∀ x ∈ scope.names, x.2 ≠ .cell := by decide) (hco : scope.isCoroutine = false := by rfl) (hgen : scope.isGenerator = false := by rfl) (hk : scope.kind = .function := by rfl) :
    wpAny (model prog w) A (call (.ref f) args) Q E s :=
  wpAny_call (call_fnA F Cc hA ho hcd hbind hloc h hcell hco hgen hk)

/-! a call's form -/
theorem x_Call {func : Expr} {args : List Expr} {Q : Value → Shared → Prop}
    (h : wpAny (model prog w) A (eval func env) (fun f s₁ => wpAny (model prog w) A (callWith pos f [] (backTo pos (starEach args env)) []) Q E s₁) E s)
    (he : eval (.Call func args [] pos) env = (do callWith pos (← eval func env) [] (backTo pos (starEach args env)) (backToKw pos (keywordEach [] env))) := by rfl) :
    wpAny (model prog w) A (eval (.Call func args [] pos) env) Q E s := by
  rw [he]; exact wpAny_bind h

theorem cw_K {f : Value} {first : List Value} {e : Expr} {rest : List Expr} {Q : Value → Shared → Prop} (hk : keepIn (hd.heap_39 w.params) f = true)
    (h : wpAny (model prog w) A (spliced (backTo pos (starEach (e :: rest) env))) (fun vs s₁ => (hd.heap_39 w.params).In s₁.heap ∧ wpAny (model prog w) A (call f (first ++ vs)) Q E s₁) E s)
    (he : starEach (e :: rest) env = (false, eval e env) :: starEach rest env := by rfl) (hplain : (backTo pos (starEach rest env)).any (·.1) = false := by rfl) :
    wpAny (model prog w) A (callWith pos f first (backTo pos (starEach (e :: rest) env)) []) Q E s := by
  rw [he] at h ⊢
  exact callWith_of (by show ((false || (backTo pos (starEach rest env)).any (·.1)) || false) = false; rw [hplain]; rfl) (keeps_K hk) (evalArgs_plain h)
theorem cw_K0 {f : Value} {first : List Value} {Q : Value → Shared → Prop} (F : St s₀ R Z B V L m s) (Cc : Cx w mg mb Z) (hk : keepIn (hd.heap_39 w.params) f = true) (h : wpAny (model prog w) A (call f (first ++ [])) Q E s) :
    wpAny (model prog w) A (callWith pos f first (backTo pos (starEach [] env)) []) Q E s := callWith_K0 (Cc.kin F.toFz) hk h
theorem sp_more {e : Expr} {rest : List Expr} {Q : List Value → Shared → Prop}
    (h : wpAny (model prog w) A (eval e env) (fun v s₁ => wpAny (model prog w) A (spliced (backTo pos (starEach rest env))) (fun vs s₂ => Q (v :: vs) s₂) E s₁) E s) (he : starEach (e :: rest) env = (false, eval e env) :: starEach rest env := by rfl) :
    wpAny (model prog w) A (spliced (backTo pos (starEach (e :: rest) env))) Q E s := by rw [he]; exact spliced_cons h
theorem sp_nil {Q : List Value → Shared → Prop} (h : Q [] s) : wpAny (model prog w) A (spliced (backTo pos (starEach [] env))) Q E s := spliced_nil h
end

end
section
open PySem PySem.W PySem.Calls PyProof.Rows PySem.Spec
set_option Elab.async false
set_option maxRecDepth 100000
section
variable {prog : Program} {w : World} {A : Around} {E : Value → Shared → Prop} {s₀ s : Shared} {R Z B : View} {V : Dyn} {L a c C D : Addr} {m mg mb : Str → Option Value} {env : Env} {x : Addr} {name : Str} {pos : Pos} {v : Value} {o : Obj} {fs : List (Str × Value)} {n : Nat}

theorem boolop_last {op : BoolOp} {e : Expr} {Q : Value → Shared → Prop} (h : wpAny (model prog w) A (eval e env) Q E s) : wpAny (model prog w) A (boolOp pos op (evalEach [e] env)) Q E s := h
theorem boolop_and {e e' : Expr} {rest : List Expr} {Q : Value → Shared → Prop}
    (h : wpAny (model prog w) A (eval e env) (fun v s₁ => wpAny (model prog w) A (truthy v) (fun t s₂ => if t = true then wpAny (model prog w) A (boolOp pos .And (evalEach (e' :: rest) env)) Q E s₂ else Q v s₂) E s₁) E s) :
    wpAny (model prog w) A (boolOp pos .And (evalEach (e :: e' :: rest) env)) Q E s := by
  show wpAny _ _ (eval e env >>= _) _ _ _
  refine wpAny_bind (wpAny_mono h (fun v s₁ h₁ => wpAny_bind (wpAny_standAt (wpAny_bind (wpAny_holding (wpAny_mono h₁ (fun t s₂ h₂ => ?_) fun _ _ e => e))))) fun _ _ e => e)
  cases t
  · exact wpAny_pure (by simpa using h₂)
  · simpa using h₂
theorem boolop_or {e e' : Expr} {rest : List Expr} {Q : Value → Shared → Prop}
    (h : wpAny (model prog w) A (eval e env) (fun v s₁ => wpAny (model prog w) A (truthy v) (fun t s₂ => if t = true then Q v s₂ else wpAny (model prog w) A (boolOp pos .Or (evalEach (e' :: rest) env)) Q E s₂) E s₁) E s) :
    wpAny (model prog w) A (boolOp pos .Or (evalEach (e :: e' :: rest) env)) Q E s := by
  show wpAny _ _ (eval e env >>= _) _ _ _
  refine wpAny_bind (wpAny_mono h (fun v s₁ h₁ => wpAny_bind (wpAny_standAt (wpAny_bind (wpAny_holding (wpAny_mono h₁ (fun t s₂ h₂ => ?_) fun _ _ e => e))))) fun _ _ e => e)
  cases t
  · simpa using h₂
  · exact wpAny_pure (by simpa using h₂)
theorem x_BoolOp {op : BoolOp} {es : List Expr} {Q : Value → Shared → Prop} (h : wpAny (model prog w) A (boolOp pos op (evalEach es env)) Q E s) : wpAny (model prog w) A (eval (.BoolOp op es pos) env) Q E s := h

theorem Inst.at (I : Inst B V x C fs) (F : Fz s₀ R Z B V s) : ∃ dx es n, W.InstAt s.heap x (instObj C dx) C (some (dictOf es n)) ∧ Keyed es fs := by
  obtain ⟨dx, es, n, h1, h2, k⟩ := I.ex
  exact ⟨dx, es, n, ⟨h1.get F, rfl, rfl, h2.get F⟩, k⟩
theorem isi_yes {Q : Value → Shared → Prop} (F : St s₀ R Z B V L m s) (Cc : Cx w mg mb Z) (I : Inst B V x D fs) (e : isIn (hd.heap_39 w.params) (.ref D) C = true) (h : Q (.bool true) s) :
    wpAny (model prog w) A (call (.builtin "isinstance") [.ref x, .ref C]) Q E s := by
  obtain ⟨dx, es, n, I', _⟩ := I.at F.toFz
  exact isi_call (Cc.kin F.toFz) (fun M => I'.type) e (by intro q; cases q) h
end

end
section
open PySem PySem.W PySem.Calls PyProof.Rows PySem.Spec
set_option Elab.async false
set_option maxRecDepth 100000
theorem gl_Constraint (w : World) : nsIn (hd.heap_39 w.params) mainGlobals (Str.ofString "Constraint") = some (some (.ref 45)) := by kernel_rfl
theorem gl_TypeVarExtractor (w : World) : nsIn (hd.heap_39 w.params) mainGlobals (Str.ofString "TypeVarExtractor") = some (some (.ref 108)) := by kernel_rfl
theorem gl_get_all_type_vars (w : World) : nsIn (hd.heap_39 w.params) mainGlobals (Str.ofString "get_all_type_vars") = some (some (.ref 119)) := by kernel_rfl
theorem gl_ClassDef (w : World) : nsIn (hd.heap_39 w.params) mainGlobals (Str.ofString "ClassDef") = some (some (.ref 136)) := by kernel_rfl
theorem gl_TypeInfo (w : World) : nsIn (hd.heap_39 w.params) mainGlobals (Str.ofString "TypeInfo") = some (some (.ref 162)) := by kernel_rfl
theorem gl_TypeVarId (w : World) : nsIn (hd.heap_39 w.params) mainGlobals (Str.ofString "TypeVarId") = some (some (.ref 245)) := by kernel_rfl
theorem gl_TypeVarType (w : World) : nsIn (hd.heap_39 w.params) mainGlobals (Str.ofString "TypeVarType") = some (some (.ref 288)) := by kernel_rfl
theorem gl_Instance (w : World) : nsIn (hd.heap_39 w.params) mainGlobals (Str.ofString "Instance") = some (some (.ref 328)) := by kernel_rfl
theorem gl_UnionType (w : World) : nsIn (hd.heap_39 w.params) mainGlobals (Str.ofString "UnionType") = some (some (.ref 369)) := by kernel_rfl
theorem gl_remove_dups (w : World) : nsIn (hd.heap_39 w.params) mainGlobals (Str.ofString "remove_dups") = some (some (.ref 385)) := by kernel_rfl
theorem gl_put (w : World) : nsIn (hd.heap_39 w.params) mainGlobals (Str.ofString "put") = some (some (.ref 392)) := by kernel_rfl
theorem gl_find_linear (w : World) : nsIn (hd.heap_39 w.params) mainGlobals (Str.ofString "find_linear") = some (some (.ref 399)) := by kernel_rfl
theorem gl_transitive_closure (w : World) : nsIn (hd.heap_39 w.params) mainGlobals (Str.ofString "transitive_closure") = some (some (.ref 404)) := by kernel_rfl
theorem gl_add_secondary_constraints (w : World) : nsIn (hd.heap_39 w.params) mainGlobals (Str.ofString "add_secondary_constraints") = some (some (.ref 411)) := by kernel_rfl
theorem gl_compute_dependencies (w : World) : nsIn (hd.heap_39 w.params) mainGlobals (Str.ofString "compute_dependencies") = some (some (.ref 418)) := by kernel_rfl
theorem gl_get_vars (w : World) : nsIn (hd.heap_39 w.params) mainGlobals (Str.ofString "get_vars") = some (some (.ref 423)) := by kernel_rfl
theorem gl_law_at (w : World) : nsIn (hd.heap_39 w.params) mainGlobals (Str.ofString "_law_at") = some (some (.ref 430)) := by kernel_rfl
theorem gl_SUB (w : World) : nsIn (hd.heap_39 w.params) mainGlobals (Str.ofString "SUBTYPE_OF") = some (some (.int 0 196)) := by kernel_rfl
theorem gl_SUP (w : World) : nsIn (hd.heap_39 w.params) mainGlobals (Str.ofString "SUPERTYPE_OF") = some (some (.int 1 198)) := by kernel_rfl
theorem gb_isinstance (w : World) : nsIn (hd.heap_39 w.params) mainGlobals (Str.ofString "isinstance") = some none := by kernel_rfl
theorem bv_isinstance : bootBuiltins (Str.ofString "isinstance") = some (.builtin "isinstance") := by boot_by_name
theorem gb_len (w : World) : nsIn (hd.heap_39 w.params) mainGlobals (Str.ofString "len") = some none := by kernel_rfl
theorem bv_len : bootBuiltins (Str.ofString "len") = some (.builtin "len") := by boot_by_name
theorem gb_sorted (w : World) : nsIn (hd.heap_39 w.params) mainGlobals (Str.ofString "sorted") = some none := by kernel_rfl
theorem bv_sorted : bootBuiltins (Str.ofString "sorted") = some (.builtin "sorted") := by boot_by_name
theorem gb_range (w : World) : nsIn (hd.heap_39 w.params) mainGlobals (Str.ofString "range") = some none := by kernel_rfl
theorem bv_range : bootBuiltins (Str.ofString "range") = some (.type "range") := by boot_by_name
theorem gb_str (w : World) : nsIn (hd.heap_39 w.params) mainGlobals (Str.ofString "str") = some none := by kernel_rfl
theorem bv_str : bootBuiltins (Str.ofString "str") = some (.type "str") := by boot_by_name
theorem gb_tuple (w : World) : nsIn (hd.heap_39 w.params) mainGlobals (Str.ofString "tuple") = some none := by kernel_rfl
theorem bv_tuple : bootBuiltins (Str.ofString "tuple") = some (.type "tuple") := by boot_by_name
theorem gb_set (w : World) : nsIn (hd.heap_39 w.params) mainGlobals (Str.ofString "set") = some none := by kernel_rfl
theorem bv_set : bootBuiltins (Str.ofString "set") = some (.type "set") := by boot_by_name
theorem ao_45_type_var (w : World) : attrOk (hd.heap_39 w.params) 45 (Str.ofString "type_var") = true := by kernel_rfl
theorem ao_45_op (w : World) : attrOk (hd.heap_39 w.params) 45 (Str.ofString "op") = true := by kernel_rfl
theorem ao_45_target (w : World) : attrOk (hd.heap_39 w.params) 45 (Str.ofString "target") = true := by kernel_rfl
theorem ao_45_origin_type_var (w : World) : attrOk (hd.heap_39 w.params) 45 (Str.ofString "origin_type_var") = true := by kernel_rfl
theorem ao_245_raw_id (w : World) : attrOk (hd.heap_39 w.params) 245 (Str.ofString "raw_id") = true := by kernel_rfl
theorem ao_245_meta_level (w : World) : attrOk (hd.heap_39 w.params) 245 (Str.ofString "meta_level") = true := by kernel_rfl
theorem ao_288_id (w : World) : attrOk (hd.heap_39 w.params) 288 (Str.ofString "id") = true := by kernel_rfl
theorem ao_288_name (w : World) : attrOk (hd.heap_39 w.params) 288 (Str.ofString "name") = true := by kernel_rfl
theorem ao_288_upper_bound (w : World) : attrOk (hd.heap_39 w.params) 288 (Str.ofString "upper_bound") = true := by kernel_rfl
theorem ao_288_values (w : World) : attrOk (hd.heap_39 w.params) 288 (Str.ofString "values") = true := by kernel_rfl
theorem ao_328_type (w : World) : attrOk (hd.heap_39 w.params) 328 (Str.ofString "type") = true := by kernel_rfl
theorem ao_328_args (w : World) : attrOk (hd.heap_39 w.params) 328 (Str.ofString "args") = true := by kernel_rfl
theorem ao_162_fullname (w : World) : attrOk (hd.heap_39 w.params) 162 (Str.ofString "fullname") = true := by kernel_rfl
theorem ao_162_defn (w : World) : attrOk (hd.heap_39 w.params) 162 (Str.ofString "defn") = true := by kernel_rfl
theorem ao_162_type_vars (w : World) : attrOk (hd.heap_39 w.params) 162 (Str.ofString "type_vars") = true := by kernel_rfl
theorem ao_162_bases (w : World) : attrOk (hd.heap_39 w.params) 162 (Str.ofString "bases") = true := by kernel_rfl
theorem ao_162_mro (w : World) : attrOk (hd.heap_39 w.params) 162 (Str.ofString "mro") = true := by kernel_rfl
theorem ao_136_type_vars (w : World) : attrOk (hd.heap_39 w.params) 136 (Str.ofString "type_vars") = true := by kernel_rfl
theorem mo_288_accept (w : World) : methOk (hd.heap_39 w.params) 288 (Str.ofString "accept") 278 = true := by kernel_rfl
theorem mo_328_accept (w : World) : methOk (hd.heap_39 w.params) 328 (Str.ofString "accept") 311 = true := by kernel_rfl
theorem mo_108_visit_instance (w : World) : methOk (hd.heap_39 w.params) 108 (Str.ofString "visit_instance") 98 = true := by kernel_rfl
theorem mo_108_query_types (w : World) : methOk (hd.heap_39 w.params) 108 (Str.ofString "query_types") 63 = true := by kernel_rfl
theorem ii_45 (w : World) : isIn (hd.heap_39 w.params) (.ref 45) 45 = true := by kernel_rfl
theorem ii_245 (w : World) : isIn (hd.heap_39 w.params) (.ref 245) 245 = true := by kernel_rfl
theorem ii_288 (w : World) : isIn (hd.heap_39 w.params) (.ref 288) 288 = true := by kernel_rfl
theorem ii_328 (w : World) : isIn (hd.heap_39 w.params) (.ref 328) 328 = true := by kernel_rfl
theorem kp_45 (w : World) : keepIn (hd.heap_39 w.params) (.ref 45) = true := by kernel_rfl
theorem kp_108 (w : World) : keepIn (hd.heap_39 w.params) (.ref 108) = true := by kernel_rfl
theorem kp_119 (w : World) : keepIn (hd.heap_39 w.params) (.ref 119) = true := by kernel_rfl
theorem kp_136 (w : World) : keepIn (hd.heap_39 w.params) (.ref 136) = true := by kernel_rfl
theorem kp_162 (w : World) : keepIn (hd.heap_39 w.params) (.ref 162) = true := by kernel_rfl
theorem kp_245 (w : World) : keepIn (hd.heap_39 w.params) (.ref 245) = true := by kernel_rfl
theorem kp_288 (w : World) : keepIn (hd.heap_39 w.params) (.ref 288) = true := by kernel_rfl
theorem kp_328 (w : World) : keepIn (hd.heap_39 w.params) (.ref 328) = true := by kernel_rfl
theorem kp_369 (w : World) : keepIn (hd.heap_39 w.params) (.ref 369) = true := by kernel_rfl
theorem kp_385 (w : World) : keepIn (hd.heap_39 w.params) (.ref 385) = true := by kernel_rfl
theorem kp_392 (w : World) : keepIn (hd.heap_39 w.params) (.ref 392) = true := by kernel_rfl
theorem kp_399 (w : World) : keepIn (hd.heap_39 w.params) (.ref 399) = true := by kernel_rfl
theorem kp_404 (w : World) : keepIn (hd.heap_39 w.params) (.ref 404) = true := by kernel_rfl
theorem kp_411 (w : World) : keepIn (hd.heap_39 w.params) (.ref 411) = true := by kernel_rfl
theorem kp_418 (w : World) : keepIn (hd.heap_39 w.params) (.ref 418) = true := by kernel_rfl
theorem kp_423 (w : World) : keepIn (hd.heap_39 w.params) (.ref 423) = true := by kernel_rfl
theorem kp_430 (w : World) : keepIn (hd.heap_39 w.params) (.ref 430) = true := by kernel_rfl
theorem gb_NotImplemented (w : World) : nsIn (hd.heap_39 w.params) mainGlobals (Str.ofString "NotImplemented") = some none := by kernel_rfl
theorem bv_NotImplemented : bootBuiltins (Str.ofString "NotImplemented") = some .notImplemented := by boot_by_name
section
variable {prog : Program} {w : World} {A : Around} {E : Value → Shared → Prop} {s₀ s : Shared} {R Z B : View} {V : Dyn} {L : Addr} {m mg mb : Str → Option Value} {x : Addr} {fs : List (Str × Value)}
theorem isn_328_288 {Q : Value → Shared → Prop} (F : St s₀ R Z B V L m s) (Cc : Cx w mg mb Z) (I : Inst B V x 328 fs) (h : ∀ s', St s₀ R Z B V L m s' → Q (.bool false) s') :
    wpAny (model prog w) A (call (.builtin "isinstance") [.ref x, .ref 288]) Q E s := by
  obtain ⟨dx, es, n, I', _⟩ := I.at F.toFz
  exact kin_callC (Cc.kin F.toFz) I' (by kernel_rfl) (by kernel_rfl) (by kernel_rfl) (by kernel_rfl) (by kernel_rfl) (by kernel_rfl) (by kernel_rfl) (h _ F.toks)
theorem isn_328_369 {Q : Value → Shared → Prop} (F : St s₀ R Z B V L m s) (Cc : Cx w mg mb Z) (I : Inst B V x 328 fs) (h : ∀ s', St s₀ R Z B V L m s' → Q (.bool false) s') :
    wpAny (model prog w) A (call (.builtin "isinstance") [.ref x, .ref 369]) Q E s := by
  obtain ⟨dx, es, n, I', _⟩ := I.at F.toFz
  exact kin_callC (Cc.kin F.toFz) I' (by kernel_rfl) (by kernel_rfl) (by kernel_rfl) (by kernel_rfl) (by kernel_rfl) (by kernel_rfl) (by kernel_rfl) (h _ F.toks)
theorem isn_288_328 {Q : Value → Shared → Prop} (F : St s₀ R Z B V L m s) (Cc : Cx w mg mb Z) (I : Inst B V x 288 fs) (h : ∀ s', St s₀ R Z B V L m s' → Q (.bool false) s') :
    wpAny (model prog w) A (call (.builtin "isinstance") [.ref x, .ref 328]) Q E s := by
  obtain ⟨dx, es, n, I', _⟩ := I.at F.toFz
  exact kin_callC (Cc.kin F.toFz) I' (by kernel_rfl) (by kernel_rfl) (by kernel_rfl) (by kernel_rfl) (by kernel_rfl) (by kernel_rfl) (by kernel_rfl) (h _ F.toks)
theorem fe_45 (w : World) : findIn (hd.heap_39 w.params) (.ref 45) (Str.ofString "__eq__") = some (some (.ref 42)) := by kernel_rfl
theorem ff_42 (w : World) : isFn (hd.heap_39 w.params) (.ref 42) = true := by kernel_rfl
theorem fe_245 (w : World) : findIn (hd.heap_39 w.params) (.ref 245) (Str.ofString "__eq__") = some (some (.ref 221)) := by kernel_rfl
theorem ff_221 (w : World) : isFn (hd.heap_39 w.params) (.ref 221) = true := by kernel_rfl
theorem fe_288 (w : World) : findIn (hd.heap_39 w.params) (.ref 288) (Str.ofString "__eq__") = some (some (.ref 285)) := by kernel_rfl
theorem ff_285 (w : World) : isFn (hd.heap_39 w.params) (.ref 285) = true := by kernel_rfl
theorem fe_328 (w : World) : findIn (hd.heap_39 w.params) (.ref 328) (Str.ofString "__eq__") = some (some (.ref 318)) := by kernel_rfl
theorem ff_318 (w : World) : isFn (hd.heap_39 w.params) (.ref 318) = true := by kernel_rfl
theorem sb_1 (w : World) : subIn (hd.heap_39 w.params) (.ref 328) (.ref 288) = some false := by kernel_rfl
theorem sb_2 (w : World) : subIn (hd.heap_39 w.params) (.ref 288) (.ref 328) = some false := by kernel_rfl
end

end
set_option maxRecDepth 100000
section
theorem Inst.any {B : View} {V : Dyn} {x C fs} (I : Inst B (fun _ => none) x C fs) : Inst B V x C fs := by
  obtain ⟨dx, es, n, h1, h2, k⟩ := I.ex
  refine ⟨dx, es, n, ?_, ?_, k⟩
  · exact h1.imp id fun ⟨i, e⟩ => nomatch e
  · exact h2.imp id fun ⟨i, e⟩ => nomatch e
abbrev SInst (B : View) (x C : Addr) (fs : List (Str × Value)) : Prop := Inst B (fun _ => none) x C fs
abbrev tupO (l : List Value) : Obj := { cls := .type "tuple", data := .seq l.toArray }
abbrev listO (l : List Value) (n : Nat) : Obj := { cls := .type "list", data := .seq l.toArray n }

section
variable {prog : Program} {w : World} {A : Around} {E : Value → Shared → Prop} {s₀ s : Shared} {R Z B B' : View} {V : Dyn} {L a b c C D : Addr} {m mg mb : Str → Option Value} {env : Env} {x y : Addr} {k j n : Nat} {fs fs' : List (Str × Value)} {name : Str} {f : Addr}

/-- == as a bool, whatever the state *)-/
def EqT (w : World) (mg mb : Str → Option Value) (B : View) (n : Nat) (x y : Value) (r : Bool) : Prop :=
  ∀ (prog : Program) (A : Around) (E : Value → Shared → Prop) (s₀ s : Shared) (R Z B' : View) (V : Dyn) (L : Addr) (m : Str → Option Value) (Q : Bool → Shared → Prop),
    B.le B' → Lv n A → Cx w mg mb Z → St s₀ R Z B' V L m s → (∀ s', St s₀ R Z B' V L m s' → Q r s') → wpAny (model prog w) A (eqBool x y) Q E s
theorem EqT.le {x y : Value} {r : Bool} (h : EqT w mg mb B n x y r) (hB : B.le B') : EqT w mg mb B' n x y r :=
  fun prog A E s₀ s R Z B'' V L m Q hl => h prog A E s₀ s R Z B'' V L m Q (hB.trans hl)
theorem EqT.up {x y : Value} {r : Bool} {n' : Nat} (h : EqT w mg mb B n x y r) (hn : n ≤ n') : EqT w mg mb B n' x y r :=
  fun prog A E s₀ s R Z B'' V L m Q hl hA => h prog A E s₀ s R Z B'' V L m Q hl (hA.mono hn)
theorem EqT.int (i j : Int) (t u : Tok) : EqT w mg mb B n (.int i t) (.int j u) (i == j) :=
  fun _ _ _ _ _ _ _ _ _ _ _ _ _ _ _ F h => wpAny_eqBool_int (h _ F)

/-- richCompare by an own class's __eq__ -/
theorem cmp_inst {Q : Value → Shared → Prop} (F : St s₀ R Z B V L m s) (Cc : Cx w mg mb Z) (hA : Lv n A) (I : Inst B V x C fs) (J : Inst B V y C fs')
    (hs : findIn (hd.heap_39 w.params) (.ref C) (Str.ofString "__eq__") = some (some (.ref f))) (hf : isFn (hd.heap_39 w.params) (.ref f) = true)
    (h : wpAny (model prog w) A (call (.ref f) [.ref x, .ref y]) (fun v s' => v ≠ .notImplemented ∧ Q v s') E s) : wpAny (model prog w) A (richCompare .Eq (.ref x) (.ref y)) Q E s := by
  obtain ⟨dx, es, nx, I', _⟩ := I.at F.toFz
  obtain ⟨dy, ey, ny, J', _⟩ := J.at F.toFz
  have X := Cc.kin F.toFz
  unfold richCompare
  show wpAny _ _ (holding [.ref x, .ref y] _) _ _ _
  simp only [oneThing_ref]
  refine wpAny_holding (wpAny_bind (wpAny_cRoomFor hA.units ?_))
  refine wpAny_bind (I'.type.here (wpAny_bind (J'.type.here ?_)))
  rw [if_neg (by simp)]
  refine wpAny_bind (wpAny_pure ?_)
  simp only [Bool.false_eq_true, if_false]
  refine wpAny_bind (m := tryCompare (.ref x) (Str.ofString "__eq__") (.ref y)) ?_
  unfold tryCompare
  refine wpAny_bind (ifBound_K X I' hs hf (wpAny_mono h (fun v s' hv => ?_) fun _ _ e => e))
  obtain ⟨hv, hq⟩ := hv
  cases v <;> first | exact absurd rfl hv | exact wpAny_pure (wpAny_pure hq)

/-- the two decline: identity -/
theorem cmp_decl {fx fy : Addr} {Q : Value → Shared → Prop} (F : St s₀ R Z B V L m s) (Cc : Cx w mg mb Z) (hA : Lv n A) (I : Inst B V x C fs) (J : Inst B V y D fs') (hCD : C ≠ D) (hxy : x ≠ y)
    (hsub : subIn (hd.heap_39 w.params) (.ref D) (.ref C) = some false)
    (hs : findIn (hd.heap_39 w.params) (.ref C) (Str.ofString "__eq__") = some (some (.ref fx))) (hf : isFn (hd.heap_39 w.params) (.ref fx) = true)
    (hs' : findIn (hd.heap_39 w.params) (.ref D) (Str.ofString "__eq__") = some (some (.ref fy))) (hf' : isFn (hd.heap_39 w.params) (.ref fy) = true)
    (h1 : ∀ (E : Value → Shared → Prop) (s : Shared) (Q' : Value → Shared → Prop), St s₀ R Z B V L m s → (∀ s', St s₀ R Z B V L m s' → Q' .notImplemented s') → wpAny (model prog w) A (call (.ref fx) [.ref x, .ref y]) Q' E s)
    (h2 : ∀ (E : Value → Shared → Prop) (s : Shared) (Q' : Value → Shared → Prop), St s₀ R Z B V L m s → (∀ s', St s₀ R Z B V L m s' → Q' .notImplemented s') → wpAny (model prog w) A (call (.ref fy) [.ref y, .ref x]) Q' E s)
    (h : ∀ s', St s₀ R Z B V L m s' → Q (.bool false) s') : wpAny (model prog w) A (richCompare .Eq (.ref x) (.ref y)) Q E s := by
  obtain ⟨dx, es, nx, I', _⟩ := I.at F.toFz
  obtain ⟨dy, ey, ny, J', _⟩ := J.at F.toFz
  have X := Cc.kin F.toFz
  unfold richCompare
  show wpAny _ _ (holding [.ref x, .ref y] _) _ _ _
  simp only [oneThing_ref]
  refine wpAny_holding (wpAny_bind (wpAny_cRoomFor hA.units ?_))
  refine wpAny_bind (I'.type.here (wpAny_bind (J'.type.here ?_)))
  rw [if_pos (by simpa using hCD)]
  refine wpAny_bind ((looks_subIn X hsub).here ?_)
  simp only [Bool.false_eq_true, if_false]
  refine wpAny_bind (m := tryCompare (.ref x) (Str.ofString "__eq__") (.ref y)) ?_
  unfold tryCompare
  refine wpAny_bind (ifBound_K X I' hs hf (h1 _ _ _ F fun s₁ F₁ => wpAny_pure ?_))
  obtain ⟨dy, ey, ny, J', _⟩ := J.at F₁.toFz
  have X := Cc.kin F₁.toFz
  simp only [Bool.not_false, if_true]
  refine wpAny_bind (m := tryCompare (.ref y) (Str.ofString "__eq__") (.ref x)) ?_
  unfold tryCompare
  refine wpAny_bind (ifBound_K X J' hs' hf' (h2 _ _ _ F₁ fun s₂ F₂ => wpAny_pure ?_))
  obtain ⟨dx, es, nx, I', _⟩ := I.at F₂.toFz
  obtain ⟨dy, ey, ny, J', _⟩ := J.at F₂.toFz
  refine wpAny_bind (wpAny_rule (wpAny_bind (wpAny_isSame_ref_other hxy I'.at_ J'.at_ (by intro q; cases q) (wpAny_pure (h _ F₂)))))

theorem eqb_of {r : Bool} (hr : x = y → r = true)
    (h : ∀ (prog : Program) (A : Around) (E : Value → Shared → Prop) (s₀ s : Shared) (R Z B' : View) (V : Dyn) (L : Addr) (m : Str → Option Value) (Q : Value → Shared → Prop),
      x ≠ y → B.le B' → Lv n A → Cx w mg mb Z → St s₀ R Z B' V L m s → (∀ s', St s₀ R Z B' V L m s' → Q (.bool r) s') → wpAny (model prog w) A (richCompare .Eq (.ref x) (.ref y)) Q E s) :
    EqT w mg mb B n (.ref x) (.ref y) r := by
  intro prog A E s₀ s R Z B' V L m Q hl hA Cc F hQ
  unfold eqBool
  refine wpAny_holding ?_
  show wpAny _ _ (if (Value.ref x == Value.ref y) = true then _ else _) Q E s
  by_cases hab : (Value.ref x == Value.ref y) = true
  · rw [if_pos hab]
    have e : x = y := by have := eq_of_beq hab; injection this
    exact wpAny_bind (wpAny_rule (wpAny_pure (hr e ▸ hQ _ F)))
  · rw [if_neg hab]
    refine wpAny_bind (h prog A E s₀ s R Z B' V L m _ (fun e => hab (by simp [e])) hl hA Cc F fun s' F' => ?_)
    exact wpAny_truthy_bool (hQ _ F')

theorem tup_eq_tree {eqs : List (Value × Value × Bool)} {P : Fin → Shared → Prop} (F : St s₀ R Z B V L m s) (Cc : Cx w mg mb Z) (hA : Lv n A)
    (ha : At B V a (tupO (eqs.map (·.1)))) (hb : At B V b (tupO (eqs.map (·.2.1)))) (he : ∀ e ∈ eqs, EqT w mg mb B n e.1 e.2.1 e.2.2)
    (h : ∀ s', St s₀ R Z B V L m s' → P (.done (.ret (.bool (eqs.all (·.2.2))))) s') :
    wpAny (model prog w) A (Builtin.«tuple.__eq__» ⟨[.ref a, .ref b], []⟩) P E s := by
  have hoa := ha.get F.toFz
  have hob := hb.get F.toFz
  show wpAny _ _ (isInstance (.ref b) (.type "tuple") >>= _) _ _ s
  refine wpAny_bind (wpAny_isInstance ⟨_, hob, rfl⟩ isSubtype_tuple_tuple ?_)
  simp only [Bool.not_true, Bool.false_eq_true, if_false]
  refine wpAny_bind (wpAny_tupleItemsOf hoa rfl ?_)
  refine wpAny_bind (wpAny_tupleItemsOf hob rfl ?_)
  refine wpAny_bind ?_
  refine wpAny_forIn_list _
    (fun rest r s' => r.1 = none ∧ St s₀ R Z B V L m s' ∧ ∃ more, rest = List.zip (more.map (·.1)) (more.map (·.2.1)) ∧ (∀ e ∈ more, EqT w mg mb B n e.1 e.2.1 e.2.2) ∧ more.all (·.2.2) = eqs.all (·.2.2))
    _ ?_ ?_ _ _ ⟨rfl, F, eqs, rfl, he, rfl⟩
  · rintro ⟨u, v⟩ rest r s' ⟨hr, F', more, hz, hm, hall⟩
    cases more with
    | nil => simp at hz
    | cons e more =>
      simp only [List.map_cons, List.zip_cons_cons, List.cons.injEq, Prod.mk.injEq] at hz
      obtain ⟨⟨rfl, rfl⟩, rfl⟩ := hz
      refine wpAny_bind (hm e List.mem_cons_self _ _ _ _ _ _ _ _ _ _ _ _ (View.le.refl _) hA Cc F' fun s₂ F₂ => ?_)
      cases hb : e.2.2 with
      | true =>
        simp only [Bool.not_true, Bool.false_eq_true, if_false]
        refine wpAny_pure ⟨rfl, F₂, more, rfl, fun q hq => hm q (List.mem_cons_of_mem _ hq), ?_⟩
        rw [← hall, List.all_cons, hb, Bool.true_and]
      | false =>
        simp only [Bool.not_false, if_true]
        have hf : eqs.all (·.2.2) = false := by rw [← hall, List.all_cons, hb, Bool.false_and]
        have := h _ F₂
        rw [hf] at this
        exact wpAny_bind (wpAny_pure (wpAny_pure (wpAny_pure this)))
  · rintro ⟨r1, r2⟩ s' ⟨hr, F', more, hz, hm, hall⟩
    cases hr
    cases more with
    | cons e more => simp at hz
    | nil =>
      have : eqs.all (·.2.2) = true := by rw [← hall]; rfl
      have := h _ F'
      rw [‹eqs.all (·.2.2) = true›] at this
      refine wpAny_pure ?_
      show P (.done (.ret (.bool ((eqs.map (·.1)).toArray.size == (eqs.map (·.2.1)).toArray.size)))) s'
      simpa using this

theorem eq_tup {eqs : List (Value × Value × Bool)} (ha : B a = some (tupO (eqs.map (·.1)))) (hb : B b = some (tupO (eqs.map (·.2.1)))) (he : ∀ e ∈ eqs, EqT w mg mb B n e.1 e.2.1 e.2.2)
    (hr : ∀ e ∈ eqs, e.1 = e.2.1 → e.2.2 = true) : EqT w mg mb B (n + 1) (.ref a) (.ref b) (eqs.all (·.2.2)) := by
  refine eqb_of (fun e => ?_) fun prog A E s₀ s R Z B' V L m Q _ hl hA Cc F hQ => ?_
  · subst e
    rw [ha] at hb
    have hb : ∀ e ∈ eqs, e.1 = e.2.1 := by
      intro e he'
      obtain ⟨i, hi, rfl⟩ := List.getElem_of_mem he'
      have := congrArg (fun l => l[i]?) (by injection hb with hb; injection hb with _ _ hb; injection hb with hb; simpa using congrArg Array.toList hb : eqs.map (·.1) = eqs.map (·.2.1))
      simpa [hi] using this
    exact List.all_eq_true.mpr fun e he' => hr e he' (hb e he')
  · have ha' := (F.b a _ (hl _ _ ha)).1
    have hb' := (F.b b _ (hl _ _ hb)).1
    exact wpAny_richCompare_same_room (op := .Eq) ⟨_, ha', rfl⟩ ⟨_, hb', rfl⟩ PySem.F.slot_tuple_eq
      (wpAny_call_entry PySem.F.slot_tuple_eq ⟨_, ha', rfl⟩ PySem.F.entry_tuple_eq (tup_eq_tree F Cc hA.in1 (.ofB (hl _ _ ha)) (.ofB (hl _ _ hb)) (fun e h => (he e h).le hl) fun s' F' => ⟨_, rfl, (fun e => nomatch e), hQ _ F'⟩) (PySem.F.args_tuple_eq_2 _ _)) hA.units
end

theorem SInst.up {s₀ s : Shared} {R Z B : View} {V : Dyn} {L : Addr} {m : Str → Option Value} {x C : Addr} {fs} (F : St s₀ R Z B V L m s) (I : SInst Z x C fs) : Inst B V x C fs := Inst.any (I.le F.z)
theorem is_inst {prog : Program} {w : World} {A : Around} {E : Value → Shared → Prop} {s₀ s : Shared} {R Z B : View} {V : Dyn} {L : Addr} {m : Str → Option Value} {x y C D : Addr} {fs fs'} {Q : Value → Shared → Prop}
    (F : St s₀ R Z B V L m s) (I : SInst Z x C fs) (J : SInst Z y D fs') (hxy : x ≠ y) (h : Q (.bool false) s) : wpAny (model prog w) A (compareOp .Is (.ref x) (.ref y)) Q E s := by
  obtain ⟨dx, es, n, I', _⟩ := (Inst.any (V := V) (I.le F.z)).at F.toFz
  obtain ⟨dy, ey, n, J', _⟩ := (Inst.any (V := V) (J.le F.z)).at F.toFz
  exact wpAny_is_ref_other hxy I'.at_ J'.at_ (by intro q; cases q) h


end
local macro_rules | `(tactic| kas_types) => `(tactic| with_reducible first
  | exact gl_TypeVarId _ | exact gl_put _ | exact gl_remove_dups _ | exact gl_Constraint _ | exact gl_TypeVarType _ | exact gl_Instance _ | exact gl_UnionType _ | exact gl_SUB _ | exact gl_SUP _ | exact gl_find_linear _ | exact gl_add_secondary_constraints _ | exact gl_transitive_closure _ | exact gl_compute_dependencies _ | exact gl_get_vars _ | exact gl_get_all_type_vars _ | exact gl_law_at _ | exact gl_TypeInfo _ | exact gl_ClassDef _ | exact gl_TypeVarExtractor _)
local macro_rules | `(tactic| kat_tups) => `(tactic| with_reducible first
  | exact bv_isinstance | exact bv_len | exact bv_sorted | exact bv_range | exact bv_str | exact bv_tuple | exact bv_set | exact bv_NotImplemented)
local macro_rules | `(tactic| kba_ints) => `(tactic| with_reducible first
  | exact gb_isinstance _ | exact gb_len _ | exact gb_sorted _ | exact gb_range _ | exact gb_str _ | exact gb_tuple _ | exact gb_set _ | exact gb_NotImplemented _)
local macro_rules | `(tactic| kd_p) => `(tactic| first | exact Lv.mono (by assumption) | exact Lv.mono (Lv.deeper (by assumption)) | exact Lv.mono (Lv.in1 (by assumption)) | exact Lv.mono (Lv.in1 (Lv.deeper (by assumption))))
local macro_rules | `(tactic| kd_in) => `(tactic| first | assumption | exact SInst.up (by assumption) (by assumption))
local macro_rules | `(tactic| walk_at "eval Name") => `(tactic| k_dflt (first
  | refine x_loc (by assumption) (by rfl) ?_
  | refine x_glob (by assumption) (by assumption) (by kas_types) ?_
  | refine x_bi (by assumption) (by assumption) (by kba_ints) (by kat_tups) (by decide) ?_))
local macro_rules | `(tactic| walk_at "eval BoolOp") => `(tactic| k_dflt (refine x_BoolOp ?_))
local macro_rules | `(tactic| walk_at "boolOp") => `(tactic| k_dflt (first | refine boolop_and ?_ | refine boolop_or ?_ | refine boolop_last ?_))
local macro_rules | `(tactic| walk_at "eval Call Name") => `(tactic| k_dflt (refine x_Call ?_))
local macro_rules | `(tactic| walk_at "callWith builtin") => `(tactic| k_dflt (refine callWith_builtin1 ?_))
local macro_rules | `(tactic| walk_at "spliced") => `(tactic| k_dflt (first | refine sp_more ?_ | refine sp_nil ?_))
local macro_rules | `(tactic| walk_at "truthy bool") => `(tactic| k_dflt (refine wpAny_truthy_bool ?_))
local macro_rules | `(tactic| walk_at "ite") => `(tactic| k_dflt (simp only [if_true, if_false, Bool.false_eq_true]))
local macro_rules | `(tactic| kbo_bools) => `(tactic| with_reducible first
  | exact ao_45_type_var _ | exact ao_45_op _ | exact ao_45_target _ | exact ao_245_raw_id _ | exact ao_245_meta_level _ | exact ao_288_id _ | exact ao_328_type _ | exact ao_328_args _ | exact ao_162_fullname _ | exact ao_162_mro _ | exact ao_162_bases _ | exact ao_288_upper_bound _ | exact ao_288_values _ | exact ao_162_type_vars _)
local macro_rules | `(tactic| kct_strs) => `(tactic| with_reducible first
  | exact ii_45 _ | exact ii_245 _ | exact ii_288 _ | exact ii_328 _)
local macro_rules | `(tactic| walk_at "eval Attribute") => `(tactic| k_dflt (refine Attribute_any_ ?_))
local macro_rules | `(tactic| walk_at "getAttr ref") => `(tactic| k_dflt (refine g_attr (by assumption) (by assumption) (by kd_in) (by kbo_bools) (by rfl) (by rfl) ?_; intro s' F'))
local macro_rules | `(tactic| walk_at "call builtin:isinstance") => `(tactic| k_dflt (refine isi_yes (by assumption) (by assumption) (by kd_in) (by kct_strs) ?_))
local macro_rules | `(tactic| walk_at "call builtin:isinstance") => `(tactic| k_dflt (first | (refine isn_328_288 (by assumption) (by assumption) (by kd_in) ?_; intro s' F') | (refine isn_328_369 (by assumption) (by assumption) (by kd_in) ?_; intro s' F') | (refine isn_288_328 (by assumption) (by assumption) (by kd_in) ?_; intro s' F')))
local macro_rules | `(tactic| walk_at "compareOp Eq int int") => `(tactic| k_dflt (refine eq_int ?_))
local macro_rules | `(tactic| walk_at "compareOp Is ref ref") => `(tactic| k_dflt (refine is_inst (by assumption) (by assumption) (by assumption) (by assumption) ?_))
local macro_rules | `(tactic| kd_p1) => `(tactic| first | assumption | exact IsId.up (by assumption) (by assumption))
local macro_rules | `(tactic| walk_at "compareOp Eq ref ref") => `(tactic| k_dflt (refine cmp_id (by assumption) (by assumption) (by kd_p) (by kd_p1) (by kd_p1) (by first | exact beq_eq_false_iff_ne.mpr (by assumption) | rfl) ?_; intro s' F'))
section
theorem Keyed.fn {es fs fs'} (k : Keyed es fs) (k' : Keyed es fs') : fs = fs' := by
  induction k generalizing fs' with
  | nil => cases k'; rfl
  | cons e1 e2 _ ih =>
    cases k' with
    | cons e1' e2' k'' =>
      rw [e1] at e1'; cases e1'
      rw [e2] at e2'; subst e2'
      rw [ih k'']
theorem SInst.fn {B : View} {x C C' : Addr} {fs fs'} (i : SInst B x C fs) (j : SInst B x C' fs') : C = C' ∧ fs = fs' := by
  obtain ⟨dx, es, n, h1, h2, k⟩ := i.ex
  obtain ⟨dx', es', n', h1', h2', k'⟩ := j.ex
  have h1 := h1.resolve_right fun ⟨_, e⟩ => nomatch e
  have h2 := h2.resolve_right fun ⟨_, e⟩ => nomatch e
  have h1' := h1'.resolve_right fun ⟨_, e⟩ => nomatch e
  have h2' := h2'.resolve_right fun ⟨_, e⟩ => nomatch e
  rw [h1] at h1'; cases h1'
  rw [h2] at h2'
  injection h2' with h2'; injection h2' with _ _ h2'; injection h2' with h2' _; injection h2' with h2'
  subst h2'
  exact ⟨rfl, k.fn k'⟩
def clsName (j : Nat) : Str := match j with | 0 => Str.ofString "m.A" | 1 => Str.ofString "m.B" | _ => Str.ofString "m.C"
structure Dom where
  n : Nat
  id : Nat → Addr
  var : Nat → Addr
  cls : Nat → Addr
  ti : Nat → Addr
  emp : Nat → Addr
def IsId (B : View) (x : Addr) (k : Nat) : Prop := ∃ t t', SInst B x 245 [(Str.ofString "raw_id", .int ((k : Int) + 1) t), (Str.ofString "meta_level", .int 0 t')]
structure DomOK (D : Dom) (B : View) : Prop where
  n5 : D.n ≤ 5
  n1 : 1 ≤ D.n
  id : ∀ k, k < D.n → IsId B (D.id k) k
  var : ∀ k, k < D.n → ∃ nm up vs va, SInst B (D.var k) 288 [(Str.ofString "name", nm), (Str.ofString "id", .ref (D.id k)), (Str.ofString "upper_bound", up), (Str.ofString "values", vs), (Str.ofString "variance", va)]
  cls : ∀ j, j < 3 → SInst B (D.cls j) 328 [(Str.ofString "type", .ref (D.ti j)), (Str.ofString "args", .ref (D.emp j))]
  emp : ∀ j, j < 3 → B (D.emp j) = some (tupO [])
  ti : ∀ j, j < 3 → ∃ t fs, SInst B (D.ti j) 162 ((Str.ofString "fullname", .str (clsName j) t) :: fs)
theorem IsId.le {B B' : View} {x : Addr} {k : Nat} (h : IsId B x k) (hl : B.le B') : IsId B' x k := let ⟨t, t', i⟩ := h; ⟨t, t', i.le hl⟩
theorem DomOK.le {D : Dom} {B B' : View} (h : DomOK D B) (hl : B.le B') : DomOK D B' :=
  ⟨h.n5, h.n1, fun k hk => (h.id k hk).le hl, fun k hk => let ⟨a, b, c, d, i⟩ := h.var k hk; ⟨a, b, c, d, i.le hl⟩, fun j hj => (h.cls j hj).le hl, fun j hj => hl _ _ (h.emp j hj), fun j hj => let ⟨t, fs, i⟩ := h.ti j hj; ⟨t, fs, i.le hl⟩⟩
theorem IsId.up {s₀ s : Shared} {R Z B : View} {V : Dyn} {L : Addr} {m : Str → Option Value} {x : Addr} {k : Nat} (F : St s₀ R Z B V L m s) (I : IsId Z x k) : IsId B x k := I.le F.z
theorem IsId.open {B : View} {x : Addr} {k : Nat} (h : IsId B x k) (V : Dyn) : ∃ t t', Inst B V x 245 [(Str.ofString "raw_id", .int ((k : Int) + 1) t), (Str.ofString "meta_level", .int 0 t')] := let ⟨t, t', i⟩ := h; ⟨t, t', i.any⟩
theorem IsId.inj {B : View} {x : Addr} {k j : Nat} (h : IsId B x k) (h' : IsId B x j) : k = j := by
  obtain ⟨t, t', i⟩ := h
  obtain ⟨u, u', i'⟩ := h'
  have := (i.fn i').2
  simp at this
  omega

section
variable {prog : Program} {w : World} {A : Around} {E : Value → Shared → Prop} {s₀ s : Shared} {R Z B : View} {V : Dyn} {L a c C : Addr} {m mg mb : Str → Option Value} {env : Env} {x y : Addr} {k j n : Nat} {D : Dom}
theorem DomOK.id_inj (h : DomOK D B) (hk : k < D.n) (hj : j < D.n) (e : D.id k = D.id j) : k = j := (h.id k hk).inj (e ▸ h.id j hj)
theorem clsName_inj : ∀ {j k : Nat}, j < 3 → k < 3 → clsName j = clsName k → j = k := by
  intro j k hj hk
  match j, k, hj, hk with
  | 0, 0, _, _ => intro _; rfl
  | 1, 1, _, _ => intro _; rfl
  | 2, 2, _, _ => intro _; rfl
  | 0, 1, _, _ => intro h; exact absurd h (by decide)
  | 0, 2, _, _ => intro h; exact absurd h (by decide)
  | 1, 0, _, _ => intro h; exact absurd h (by decide)
  | 1, 2, _, _ => intro h; exact absurd h (by decide)
  | 2, 0, _, _ => intro h; exact absurd h (by decide)
  | 2, 1, _, _ => intro h; exact absurd h (by decide)
theorem DomOK.ti_inj (h : DomOK D B) (hk : k < 3) (hj : j < 3) (e : D.ti k = D.ti j) : k = j := by
  obtain ⟨t, fs, i⟩ := h.ti k hk
  obtain ⟨t', fs', i'⟩ := h.ti j hj
  rw [e] at i
  have := (i.fn i').2
  simp at this
  exact clsName_inj hk hj this.1.1
theorem DomOK.cls_inj (h : DomOK D B) (hk : k < 3) (hj : j < 3) (e : D.cls k = D.cls j) : k = j := by
  have i := h.cls k hk
  rw [e] at i
  have := (i.fn (h.cls j hj)).2
  simp at this
  exact h.ti_inj hk hj this.1
theorem DomOK.var_inj (h : DomOK D B) (hk : k < D.n) (hj : j < D.n) (e : D.var k = D.var j) : k = j := by
  obtain ⟨_, _, _, _, i⟩ := h.var k hk
  obtain ⟨_, _, _, _, i'⟩ := h.var j hj
  rw [e] at i
  have := (i.fn i').2
  simp at this
  exact h.id_inj hk hj this.2.1

set_option maxHeartbeats 1000000 in
theorem eq_id {Q : Value → Shared → Prop} (F : St s₀ R Z B V L m s) (Cc : Cx w mg mb Z) (hA : Lv 1 A) (hx : IsId B x k) (hy : IsId B y j) (h : ∀ s', St s₀ R Z B V L m s' → Q (.bool (k == j)) s') :
    wpAny (model prog w) A (call (.ref 221) [.ref x, .ref y]) Q E s := by
  obtain ⟨t1, t2, hx⟩ := hx
  obtain ⟨t3, t4, hy⟩ := hy
  refine call_fn (binds := [("self", .ref x), ("other", .ref y)]) F Cc hA rfl (by kernel_rfl) (BindsTo.of_eq rfl) (locs rfl) (fun R' L' s' F' Cc' back => ?_)
  clear F hA
  repeat walk1
  · rename_i e _ _ _ _
    have : k = j := by omega
    subst this
    have := h _ (back _ _ _ _ (by assumption))
    simpa [retOf] using this
  · rename_i e
    have h1 : (k == j) = false := by simp; omega
    have h2 : ((k : Int) + 1 == (j : Int) + 1) = false := by simp; omega
    rw [h2]
    rw [h1] at h
    exact h _ (back _ _ _ _ (by assumption))

theorem cmp_id {Q : Value → Shared → Prop} {r : Bool} (F : St s₀ R Z B V L m s) (Cc : Cx w mg mb Z) (hA : Lv 1 A) (hx : IsId B x k) (hy : IsId B y j) (e : (k == j) = r) (h : ∀ s', St s₀ R Z B V L m s' → Q (.bool r) s') :
    wpAny (model prog w) A (compareOp .Eq (.ref x) (.ref y)) Q E s := by
  subst e
  obtain ⟨t1, t2, ix⟩ := id hx
  obtain ⟨t3, t4, iy⟩ := id hy
  exact cmp_inst F Cc hA (Inst.any ix) (Inst.any iy) (fe_245 w) (ff_221 w) (eq_id F Cc hA hx hy fun s' F' => ⟨nofun, h _ F'⟩)
local macro_rules | `(tactic| kd_p1) => `(tactic| first | assumption | exact IsId.up (by assumption) (by assumption))
local macro_rules | `(tactic| walk_at "compareOp Eq ref ref") => `(tactic| k_dflt (refine cmp_id (by assumption) (by assumption) (by kd_p) (by kd_p1) (by kd_p1) (by first | exact beq_eq_false_iff_ne.mpr (by assumption) | rfl) ?_; intro s' F'))
set_option maxHeartbeats 1000000 in
theorem ne_cls {Q : Value → Shared → Prop} (F : St s₀ R Z B V L m s) (Cc : Cx w mg mb Z) (hD : DomOK D B) (hA : Lv 1 A) (hk : k < 3) (hj : j < 3) (hkj : k ≠ j) (h : ∀ s', St s₀ R Z B V L m s' → Q (.bool false) s') :
    wpAny (model prog w) A (call (.ref 318) [.ref (D.cls k), .ref (D.cls j)]) Q E s := by
  have i1 := hD.cls k hk
  have i2 := hD.cls j hj
  obtain ⟨_, _, j1⟩ := hD.ti k hk
  obtain ⟨_, _, j2⟩ := hD.ti j hj
  have hne : D.ti k ≠ D.ti j := fun e => hkj (hD.ti_inj hk hj e)
  refine call_fn (binds := [("self", .ref (D.cls k)), ("other", .ref (D.cls j))]) F Cc hA rfl (by kernel_rfl) (BindsTo.of_eq rfl) (locs rfl) (fun R' L' s' F' Cc' back => ?_)
  clear F hA
  repeat walk1
  exact h _ (back _ _ _ _ (by assumption))
set_option maxHeartbeats 1000000 in
theorem ne_var {Q : Value → Shared → Prop} (F : St s₀ R Z B V L m s) (Cc : Cx w mg mb Z) (hD : DomOK D B) (hA : Lv 2 A) (hk : k < D.n) (hj : j < D.n) (hkj : k ≠ j) (h : ∀ s', St s₀ R Z B V L m s' → Q (.bool false) s') :
    wpAny (model prog w) A (call (.ref 285) [.ref (D.var k), .ref (D.var j)]) Q E s := by
  obtain ⟨_, _, _, _, i1⟩ := hD.var k hk
  obtain ⟨_, _, _, _, i2⟩ := hD.var j hj
  have k1 := hD.id k hk
  have k2 := hD.id j hj
  refine call_fn (binds := [("self", .ref (D.var k)), ("other", .ref (D.var j))]) F Cc hA rfl (by kernel_rfl) (BindsTo.of_eq rfl) (locs rfl) (fun R' L' s' F' Cc' back => ?_)
  clear F
  repeat walk1
  exact h _ (back _ _ _ _ (by assumption))
set_option maxHeartbeats 1000000 in
theorem decl_cls {Q : Value → Shared → Prop} (F : St s₀ R Z B V L m s) (Cc : Cx w mg mb Z) (hD : DomOK D B) (hA : Lv 1 A) (hk : k < 3) (hj : j < D.n) (h : ∀ s', St s₀ R Z B V L m s' → Q .notImplemented s') :
    wpAny (model prog w) A (call (.ref 318) [.ref (D.cls k), .ref (D.var j)]) Q E s := by
  have i1 := hD.cls k hk
  obtain ⟨_, _, _, _, i2⟩ := hD.var j hj
  refine call_fn (binds := [("self", .ref (D.cls k)), ("other", .ref (D.var j))]) F Cc hA rfl (by kernel_rfl) (BindsTo.of_eq rfl) (locs rfl) (fun R' L' s' F' Cc' back => ?_)
  clear F hA
  repeat walk1
  exact h _ (back _ _ _ _ (by assumption))
set_option maxHeartbeats 1000000 in
theorem decl_var {Q : Value → Shared → Prop} (F : St s₀ R Z B V L m s) (Cc : Cx w mg mb Z) (hD : DomOK D B) (hA : Lv 1 A) (hk : k < 3) (hj : j < D.n) (h : ∀ s', St s₀ R Z B V L m s' → Q .notImplemented s') :
    wpAny (model prog w) A (call (.ref 285) [.ref (D.var j), .ref (D.cls k)]) Q E s := by
  have i1 := hD.cls k hk
  obtain ⟨_, _, _, _, i2⟩ := hD.var j hj
  refine call_fn (binds := [("self", .ref (D.var j)), ("other", .ref (D.cls k))]) F Cc hA rfl (by kernel_rfl) (BindsTo.of_eq rfl) (locs rfl) (fun R' L' s' F' Cc' back => ?_)
  clear F hA
  repeat walk1
  exact h _ (back _ _ _ _ (by assumption))
end

end
local macro_rules | `(tactic| kd_p1) => `(tactic| first | assumption | exact IsId.up (by assumption) (by assumption))
local macro_rules | `(tactic| walk_at "compareOp Eq ref ref") => `(tactic| k_dflt (refine cmp_id (by assumption) (by assumption) (by kd_p) (by kd_p1) (by kd_p1) (by first | exact beq_eq_false_iff_ne.mpr (by assumption) | rfl) ?_; intro s' F'))
section
/-- a constraint: of which variable, from above or below, of a variable or a class, which -/
abbrev Con := Nat × Bool × Bool × Nat
def Con.ok (n : Nat) (c : Con) : Prop := c.1 < n ∧ (c.2.2.1 = true → c.2.2.2 < n) ∧ (c.2.2.1 = false → c.2.2.2 < 3)
def Dom.tgt (D : Dom) (v : Bool) (i : Nat) : Addr := if v then D.var i else D.cls i
structure IsCon (D : Dom) (B : View) (x : Addr) (c : Con) : Prop where
  ok : c.ok D.n
  i : ∃ t, SInst B x 45 [(Str.ofString "type_var", .ref (D.id c.1)), (Str.ofString "op", .int (if c.2.1 then 1 else 0) t), (Str.ofString "target", .ref (D.tgt c.2.2.1 c.2.2.2)), (Str.ofString "origin_type_var", .ref (D.var c.1))]
theorem IsCon.le {D : Dom} {B B' : View} {x : Addr} {c : Con} (h : IsCon D B x c) (hl : B.le B') : IsCon D B' x c := ⟨h.ok, let ⟨t, i⟩ := h.i; ⟨t, i.le hl⟩⟩

/-- a new tuple -/
theorem n_tup {prog : Program} {w : World} {A : Around} {E : Value → Shared → Prop} {s₀ s : Shared} {R Z B : View} {V : Dyn} {L : Addr} {m : Str → Option Value} {vs : List Value} {Q : Value → Shared → Prop}
    (F : St s₀ R Z B V L m s) (h : ∀ t s', B t = none → St s₀ R Z (B.put t (tupO vs)) V L m s' → Q (.ref t) s') (hsz : vs.length ≤ sizeLine := by size_fits) : wpAny (model prog w) A (newTuple vs) Q E s :=
  wpAny_newTuple (h _ _ (F.fresh (get_fresh _)).2.1 (F.newB (get_fresh _) (fun _ _ e => Heap.get?_push_of_some _ e) (Heap.get?_push_size _ rfl))) hsz
theorem vput_get {B : View} {a b : Addr} {o p : Obj} (hb : B b = none) (h : B a = some o) : (B.put b p) a = some o := vput_le hb _ _ h

section
variable {prog : Program} {w : World} {A : Around} {E : Value → Shared → Prop} {s₀ s : Shared} {R Z B : View} {V : Dyn} {L a b c C : Addr} {m mg mb : Str → Option Value} {env : Env} {x y : Addr} {k j n : Nat} {D : Dom}

theorem EqT.id (hx : IsId B x k) (hy : IsId B y j) : EqT w mg mb B 1 (.ref x) (.ref y) (k == j) := by
  refine eqb_of (fun e => ?_) fun prog A E s₀ s R Z B' V L m Q _ hl hA Cc F hQ => cmp_id F Cc hA (hx.le hl) (hy.le hl) rfl hQ
  subst e; simpa using hx.inj hy
theorem EqT.cls (hD : DomOK D B) (hk : k < 3) (hj : j < 3) : EqT w mg mb B 1 (.ref (D.cls k)) (.ref (D.cls j)) (k == j) := by
  refine eqb_of (fun e => by simpa using hD.cls_inj hk hj e) fun prog A E s₀ s R Z B' V L m Q hne hl hA Cc F hQ => ?_
  have hkj : k ≠ j := fun e => hne (by rw [e])
  have e : (k == j) = false := by simpa using hkj
  rw [e] at hQ
  have hD := hD.le hl
  exact cmp_inst F Cc hA (Inst.any (hD.cls k hk)) (Inst.any (hD.cls j hj)) (fe_328 w) (ff_318 w) (ne_cls F Cc hD hA hk hj hkj fun s' F' => ⟨nofun, hQ _ F'⟩)
theorem EqT.var (hD : DomOK D B) (hk : k < D.n) (hj : j < D.n) : EqT w mg mb B 2 (.ref (D.var k)) (.ref (D.var j)) (k == j) := by
  refine eqb_of (fun e => by simpa using hD.var_inj hk hj e) fun prog A E s₀ s R Z B' V L m Q hne hl hA Cc F hQ => ?_
  have hkj : k ≠ j := fun e => hne (by rw [e])
  have e : (k == j) = false := by simpa using hkj
  rw [e] at hQ
  have hD := hD.le hl
  obtain ⟨_, _, _, _, i1⟩ := hD.var k hk
  obtain ⟨_, _, _, _, i2⟩ := hD.var j hj
  exact cmp_inst F Cc hA (Inst.any i1) (Inst.any i2) (fe_288 w) (ff_285 w) (ne_var F Cc hD hA hk hj hkj fun s' F' => ⟨nofun, hQ _ F'⟩)
theorem DomOK.cls_var (hD : DomOK D B) (hk : k < 3) (hj : j < D.n) : D.cls k ≠ D.var j := fun e => by
  obtain ⟨_, _, _, _, i⟩ := hD.var j hj
  have i' := hD.cls k hk
  rw [e] at i'
  exact absurd (i'.fn i).1 (by decide)
theorem EqT.clsvar (hD : DomOK D B) (hk : k < 3) (hj : j < D.n) : EqT w mg mb B 1 (.ref (D.cls k)) (.ref (D.var j)) false := by
  refine eqb_of (fun e => absurd e (hD.cls_var hk hj)) fun prog A E s₀ s R Z B' V L m Q hne hl hA Cc F hQ => ?_
  have hD := hD.le hl
  obtain ⟨_, _, _, _, i2⟩ := hD.var j hj
  exact cmp_decl F Cc hA (Inst.any (hD.cls k hk)) (Inst.any i2) (by decide) hne (sb_2 w) (fe_328 w) (ff_318 w) (fe_288 w) (ff_285 w) (fun E s Q F h => decl_cls F Cc hD hA hk hj h) (fun E s Q F h => decl_var F Cc hD hA hk hj h) hQ
theorem EqT.varcls (hD : DomOK D B) (hk : k < 3) (hj : j < D.n) : EqT w mg mb B 1 (.ref (D.var j)) (.ref (D.cls k)) false := by
  refine eqb_of (fun e => absurd e.symm (hD.cls_var hk hj)) fun prog A E s₀ s R Z B' V L m Q hne hl hA Cc F hQ => ?_
  have hD := hD.le hl
  obtain ⟨_, _, _, _, i2⟩ := hD.var j hj
  exact cmp_decl F Cc hA (Inst.any i2) (Inst.any (hD.cls k hk)) (by decide) hne (sb_1 w) (fe_288 w) (ff_285 w) (fe_328 w) (ff_318 w) (fun E s Q F h => decl_var F Cc hD hA hk hj h) (fun E s Q F h => decl_cls F Cc hD hA hk hj h) hQ
theorem EqT.tgt {v v' : Bool} {i i' : Nat} (hD : DomOK D B) (h1 : v = true → i < D.n) (h2 : v = false → i < 3) (h1' : v' = true → i' < D.n) (h2' : v' = false → i' < 3) :
    EqT w mg mb B 2 (.ref (D.tgt v i)) (.ref (D.tgt v' i')) (v == v' && i == i') := by
  cases v <;> cases v'
  · exact (EqT.cls hD (h2 rfl) (h2' rfl)).up (by decide)
  · exact (EqT.clsvar hD (h2 rfl) (h1' rfl)).up (by decide)
  · exact (EqT.varcls hD (h2' rfl) (h1 rfl)).up (by decide)
  · exact EqT.var hD (h1 rfl) (h1' rfl)

theorem cmp_tup {eqs : List (Value × Value × Bool)} {Q : Value → Shared → Prop} (F : St s₀ R Z B V L m s) (Cc : Cx w mg mb Z) (hA : Lv (n + 1) A) (ha : B a = some (tupO (eqs.map (·.1)))) (hb : B b = some (tupO (eqs.map (·.2.1)))) (he : ∀ e ∈ eqs, EqT w mg mb B n e.1 e.2.1 e.2.2)
    (h : ∀ s', St s₀ R Z B V L m s' → Q (.bool (eqs.all (·.2.2))) s') : wpAny (model prog w) A (compareOp .Eq (.ref a) (.ref b)) Q E s :=
  have ha' := (F.b a _ ha).1
  have hb' := (F.b b _ hb).1
  wpAny_richCompare_same_room (op := .Eq) ⟨_, ha', rfl⟩ ⟨_, hb', rfl⟩ PySem.F.slot_tuple_eq
    (wpAny_call_entry PySem.F.slot_tuple_eq ⟨_, ha', rfl⟩ PySem.F.entry_tuple_eq (tup_eq_tree F Cc hA.in1 (.ofB ha) (.ofB hb) he fun s' F' => ⟨_, rfl, (fun e => nomatch e), h _ F'⟩) (PySem.F.args_tuple_eq_2 _ _)) hA.units

local macro_rules | `(tactic| walk_at "newTuple") => `(tactic| k_dflt (refine n_tup (by assumption) ?_; intro t' s' hB' F'))
set_option maxHeartbeats 1000000 in
theorem eq_con {c c' : Con} {Q : Value → Shared → Prop} (F : St s₀ R Z B V L m s) (Cc : Cx w mg mb Z) (hD : DomOK D B) (hA : Lv 4 A) (hx : IsCon D B x c) (hy : IsCon D B y c') (h : ∀ s', St s₀ R Z B V L m s' → Q (.bool (c == c')) s') :
    wpAny (model prog w) A (call (.ref 42) [.ref x, .ref y]) Q E s := by
  obtain ⟨ok1, t1, i1⟩ := hx
  obtain ⟨ok2, t2, i2⟩ := hy
  refine call_fn (binds := [("self", .ref x), ("other", .ref y)]) F Cc hA rfl (by kernel_rfl) (BindsTo.of_eq rfl) (locs rfl) (fun R' L' s' F' Cc' back => ?_)
  repeat walk1
  rename_i t1' _ hb1 _ _ _ _ _ t2' _ hb2 F₂
  have hD₂ := hD.le F₂.z
  refine cmp_tup (n := 2) (eqs := [(.ref (D.id c.1), .ref (D.id c'.1), c.1 == c'.1), (.int (if c.2.1 then 1 else 0) t1, .int (if c'.2.1 then 1 else 0) t2, (if c.2.1 then (1 : Int) else 0) == (if c'.2.1 then 1 else 0)), (.ref (D.tgt c.2.2.1 c.2.2.2), .ref (D.tgt c'.2.2.1 c'.2.2.2), (c.2.2.1 == c'.2.2.1 && c.2.2.2 == c'.2.2.2))])
    F₂ Cc' (by kd_p) (vput_get hb2 (vput_self _ _ _)) (vput_self _ _ _) ?_ fun s₃ F₃ => ?_
  · intro e he
    simp only [List.mem_cons, List.not_mem_nil, or_false] at he
    rcases he with rfl | rfl | rfl
    · exact (EqT.id (hD₂.id _ ok1.1) (hD₂.id _ ok2.1)).up (by decide)
    · exact EqT.int _ _ _ _
    · exact EqT.tgt hD₂ ok1.2.1 ok1.2.2 ok2.2.1 ok2.2.2
  · have e : (c == c') = List.all [(Value.ref (D.id c.1), Value.ref (D.id c'.1), c.1 == c'.1), (.int (if c.2.1 then 1 else 0) t1, .int (if c'.2.1 then 1 else 0) t2, (if c.2.1 then (1 : Int) else 0) == (if c'.2.1 then 1 else 0)), (.ref (D.tgt c.2.2.1 c.2.2.2), .ref (D.tgt c'.2.2.1 c'.2.2.2), (c.2.2.1 == c'.2.2.1 && c.2.2.2 == c'.2.2.2))] (·.2.2) := by
      obtain ⟨a, b, v, i⟩ := c
      obtain ⟨a', b', v', i'⟩ := c'
      simp only [List.all_cons, List.all_nil, Bool.and_true]
      show (a == a' && (b == b' && (v == v' && i == i'))) = _
      cases b <;> cases b' <;> rfl
    rw [← e]
    exact (h _ ((back _ _ _ _ F₃).dropB F₂.z F.z))
end

end
section
theorem EqT.con {w mg mb} {D : Dom} {B : View} {x y : Addr} {c c' : Con} (hD : DomOK D B) (hx : IsCon D B x c) (hy : IsCon D B y c') : EqT w mg mb B 4 (.ref x) (.ref y) (c == c') := by
  refine eqb_of (fun e => ?_) fun prog A E s₀ s R Z B' V L m Q hne hl hA Cc F hQ => ?_
  · subst e
    obtain ⟨ok1, t1, i1⟩ := hx
    obtain ⟨ok2, t2, i2⟩ := hy
    have h := (i1.fn i2).2
    simp only [List.cons.injEq, Prod.mk.injEq, true_and, Value.ref.injEq, Value.int.injEq, and_true] at h
    obtain ⟨h1, ⟨h2, _⟩, h3, _⟩ := h
    obtain ⟨a, b, v, i⟩ := c
    obtain ⟨a', b', v', i'⟩ := c'
    have e1 := hD.id_inj ok1.1 ok2.1 h1
    have e2 : b = b' := by cases b <;> cases b' <;> first | rfl | (simp at h2)
    have e3 : v = v' ∧ i = i' := by
      unfold Dom.tgt at h3
      cases v <;> cases v'
      · exact ⟨rfl, hD.cls_inj (ok1.2.2 rfl) (ok2.2.2 rfl) h3⟩
      · exact absurd h3 (hD.cls_var (ok1.2.2 rfl) (ok2.2.1 rfl))
      · exact absurd h3.symm (hD.cls_var (ok2.2.2 rfl) (ok1.2.1 rfl))
      · exact ⟨rfl, hD.var_inj (ok1.2.1 rfl) (ok2.2.1 rfl) h3⟩
    simp only at e1
    subst e1; subst e2; obtain ⟨rfl, rfl⟩ := e3
    simp
  · have hD := hD.le hl
    obtain ⟨_, i1⟩ := (hx.le hl).i
    obtain ⟨_, i2⟩ := (hy.le hl).i
    exact cmp_inst F Cc hA (Inst.any i1) (Inst.any i2) (fe_45 w) (ff_42 w) (eq_con F Cc hD hA (hx.le hl) (hy.le hl) fun s' F' => ⟨nofun, hQ _ F'⟩)

section
variable {prog : Program} {w : World} {A : Around} {E : Value → Shared → Prop} {s₀ s : Shared} {R Z B : View} {V : Dyn} {L a b l C : Addr} {m mg mb : Str → Option Value} {env : Env} {y : Addr} {k j n : Nat} {x : Value}

/-- items and what == says of them -/
inductive Eqs (w : World) (mg mb : Str → Option Value) (B : View) (n : Nat) (x : Value) : List Value → List Bool → Prop
  | nil : Eqs w mg mb B n x [] []
  | cons {v vs b bs} : EqT w mg mb B n v x b → Eqs w mg mb B n x vs bs → Eqs w mg mb B n x (v :: vs) (b :: bs)
theorem Eqs.of {α : Type} (f : α → Value) (g : α → Bool) (l : List α) (h : ∀ a ∈ l, EqT w mg mb B n (f a) x (g a)) : Eqs w mg mb B n x (l.map f) (l.map g) := by
  induction l with
  | nil => exact .nil
  | cons a l ih => exact .cons (h a List.mem_cons_self) (ih fun b hb => h b (List.mem_cons_of_mem _ hb))

open AutoSeq1 (wpAny_loadPart') in
theorem contains_loop (hA : Lv n A.in1) (Cc : Cx w mg mb Z) {done : List Value} {vs : List Value} {bs : List Bool} (he : Eqs w mg mb B n x vs bs) {P : Result → Shared → Prop} :
    ∀ (s : Shared) (done : List Value), At B V l (listO (done ++ vs) k) → St s₀ R Z B V L m s → (∀ s', St s₀ R Z B V L m s' → P (.ok (.ret (.bool (bs.any id)))) s') →
      wpAny (model prog w) A.in1 (Builtin.«list.__contains__.loop» ⟨[.ref l, x, rawInt (done.length : Nat)], []⟩) (fun fin s' => match fin with | .done f => P (.ok f) s' | .again c' => c'.quiet = true ∧ codeAny (model prog w) A c' P s') (fun e s' => P (.error e) s') s := by
  induction he with
  | nil =>
    intro s done hl F h
    have hl := hl.get F.toFz
    have h := h _ F
    obtain ⟨hp, g, d, tk, os⟩ := s
    wp_walk using wpAny_loadPart' hl
    have hi : (done ++ ([] : List Value)).toArray[((done.length : Nat) : Int).toNat]? = none := by simp
    rw [hi]
    wp_walk
    exact h
  | @cons v vs b bs hv hvs ih =>
    intro s done hl F h
    have hl' := hl.get F.toFz
    obtain ⟨hp, g, d, tk, os⟩ := s
    wp_walk using wpAny_loadPart' hl'
    have hi : (done ++ v :: vs).toArray[((done.length : Nat) : Int).toNat]? = some v := by simp
    rw [hi]
    refine wpAny_bind (hv prog _ _ _ _ _ _ _ _ _ _ _ (View.le.refl _) hA Cc F fun s₁ F₁ => ?_)
    cases b with
    | true =>
      have h := h _ F₁
      obtain ⟨hp, g, d, tk, os⟩ := s₁
      wp_walk
      exact h
    | false =>
      have ih := ih s₁ (done ++ [v]) (by simpa using hl) F₁ (by simpa using h)
      have hc : ((done.length : Nat) : Int) + 1 = (((done ++ [v]).length : Nat) : Int) := by simp
      obtain ⟨hp, g, d, tk, os⟩ := s₁
      wp_walk
      rw [hc]
      exact ⟨plainId_quiet MeetsSeq.plain_contains_loop _, codeAny_builtin MeetsSeq.entry_contains_loop (by
        rw [Around.under_plainId MeetsSeq.plain_contains_loop _]
        exact ih)⟩

open AutoSeq1 (wpAny_loadPart') in
theorem in_list {vs : List Value} {bs : List Bool} {Q : Value → Shared → Prop} (F : St s₀ R Z B V L m s) (Cc : Cx w mg mb Z) (hA : Lv (n + 1) A) (hl : At B V l (listO vs k)) (he : Eqs w mg mb B n x vs bs)
    (h : ∀ s', St s₀ R Z B V L m s' → Q (.bool (bs.any id)) s') : wpAny (model prog w) A (compareOp .In x (.ref l)) Q E s := by
  have hg := hl.get F.toFz
  show wpAny _ _ (contains (.ref l) x >>= fun b => pure (Value.bool b) : Sem Value) _ _ _
  refine wpAny_bind (wpAny_contains_slot ⟨_, hg, rfl⟩ PySem.F.slot_list_contains ?_)
  refine wpAny_call (codeAny_call_builtin PySem.F.slot_list_contains.plain PySem.F.entry_list_contains (PySem.F.slot_list_contains.check _ _ _ _ _ _ _ _ ⟨_, hg, rfl⟩ (PySem.F.args_list_contains_2 _ _) ?_))
  have key := contains_loop (prog := prog) (done := []) (k := k) (P := fun r s' => match r with | .ok (.ret v) => wpAny (model prog w) A (truthy v) (fun b s'' => wpAny (model prog w) A (pure (.bool b)) Q E s'') E s' | .ok _ => False | .error e => E e s') hA.in1 Cc he s [] (by simpa using hl) F
    (fun s' F' => wpAny_truthy_bool (wpAny_pure (h s' F')))
  obtain ⟨hp, g, d, tk, os⟩ := s
  wp_walk using wpAny_loadPart' hg
  exact ⟨plainId_quiet MeetsSeq.plain_contains_loop _, codeAny_builtin MeetsSeq.entry_contains_loop (by
    rw [Around.under_plainId MeetsSeq.plain_contains_loop _]
    exact key)⟩
theorem notin_list {vs : List Value} {bs : List Bool} {Q : Value → Shared → Prop} (F : St s₀ R Z B V L m s) (Cc : Cx w mg mb Z) (hA : Lv (n + 1) A) (hl : At B V l (listO vs k)) (he : Eqs w mg mb B n x vs bs)
    (h : ∀ s', St s₀ R Z B V L m s' → Q (.bool (!bs.any id)) s') : wpAny (model prog w) A (compareOp .NotIn x (.ref l)) Q E s := by
  have := in_list (prog := prog) (E := E) (Q := fun v s' => match v with | .bool b => Q (.bool (!b)) s' | _ => False) F Cc hA hl he h
  have e1 : compareOp .In x (.ref l) = (contains (.ref l) x >>= fun b => pure (Value.bool b) : Sem Value) := rfl
  have e2 : compareOp .NotIn x (.ref l) = (contains (.ref l) x >>= fun b => pure (Value.bool (!b)) : Sem Value) := rfl
  rw [e1] at this
  rw [e2]
  intro Γ p hΓ
  have := this Γ p hΓ
  rw [Sem.wp_bind'] at this ⊢
  exact this
end

end
section
section
variable {prog : Program} {w : World} {A : Around} {E : Value → Shared → Prop} {s₀ s : Shared} {R Z B : View} {V : Dyn} {L a b l C it : Addr} {m mg mb : Str → Option Value} {env : Env} {x : Str} {k j n : Nat} {o o' : Obj} {h' : Heap} {tk : Nat}

theorem St.addR (F : St s₀ R Z B V L m s) (n : s.heap.get? it = none) (k : ∀ b o, s.heap.get? b = some o → h'.get? b = some o) (ho : h'.get? it = some o) : St s₀ (R.put it o) Z B V L m { s with heap := h', toks := tk } := by
  obtain ⟨fR, fB, fV⟩ := F.toFz.fresh n
  have hL := F.ne_fresh n
  have F' : St s₀ R Z B V L m { s with heap := h', toks := tk } := F.keep k
  refine ⟨⟨fun a p e => ?_, fun a p e => ⟨(F'.b a p e).1, ?_⟩, fun i a p e => ⟨(F'.v i a p e).1, ?_, (F'.v i a p e).2.2⟩, F'.inj, F'.same, F'.z⟩, F'.ns, ?_, F'.lB, F'.lV⟩
  · unfold View.put at e
    split at e
    · rename_i h; subst h; cases e; exact ho
    · exact F'.r a p e
  · unfold View.put
    rw [if_neg (fun h => by subst h; rw [fB] at e; cases e)]; exact (F'.b a p e).2
  · unfold View.put
    rw [if_neg (fun h => by subst h; exact fV i p e)]; exact (F'.v i a p e).2.1
  · unfold View.put; rw [if_neg hL]; exact F.lR
theorem put_none {B : View} {a b : Addr} {o : Obj} (h : (B.put a o) b = none) : b ≠ a ∧ B b = none := by
  unfold View.put at h
  split at h
  · cases h
  · rename_i q; exact ⟨q, h⟩
theorem St.unR (hR : R it = none) (F : St s₀ (R.put it o) Z B V L m s) : St s₀ R Z B V L m s :=
  ⟨⟨fun a p e => F.r a p (vput_le hR _ _ e), fun a p e => ⟨(F.b a p e).1, (put_none (F.b a p e).2).2⟩, fun i a p e => ⟨(F.v i a p e).1, (put_none (F.v i a p e).2.1).2, (F.v i a p e).2.2⟩, F.inj, F.same, F.z⟩, F.ns, (put_none F.lR).2, F.lB, F.lV⟩
theorem St.iter (F : St s₀ (R.put it o) Z B V L m s) (k : ∀ b p, b ≠ it → s.heap.get? b = some p → h'.get? b = some p) (ho : h'.get? it = some o') : St s₀ (R.put it o') Z B V L m { s with heap := h', toks := tk } := by
  obtain ⟨oL, es, ep, hoL, r⟩ := F.ns
  have hp : ∀ a, (R.put it o) a = none → (R.put it o') a = none := fun a e => by
    obtain ⟨h1, h2⟩ := put_none e
    unfold View.put; rw [if_neg h1]; exact h2
  refine ⟨⟨fun a p e => ?_, fun a p e => ⟨k a p (put_none (F.b a p e).2).1 (F.b a p e).1, hp a (F.b a p e).2⟩, fun i a p e => ⟨k a p (put_none (F.v i a p e).2.1).1 (F.v i a p e).1, hp a (F.v i a p e).2.1, (F.v i a p e).2.2⟩, F.inj, F.same.up, F.z⟩,
    ⟨oL, es, ep, k L oL (put_none F.lR).1 hoL, r⟩, hp L F.lR, F.lB, F.lV⟩
  unfold View.put at e
  split at e
  · rename_i h; subst h; cases e; exact ho
  · rename_i h
    have := F.r a p (by unfold View.put; rw [if_neg h]; exact e)
    exact k a p h this

theorem for_walks {P : Nat → Value → Prop} {SI : Nat → Heap → Prop} {fp : List Addr} {cnt : Nat} {px : Pos} {body : List Stmt} {Q : Flow → Shared → Prop} (inv : Nat → View → Dyn → (Str → Option Value) → Prop)
    (W : Walks prog w A it fp [it] cnt P SI) (hR : R it = none) (exI : ∀ i h, SI i h → ∃ o, h.get? it = some o)
    (F : St s₀ (R.put it o) Z B V L m s) (h0 : inv 0 B V m) (hst : SI 0 s.heap)
    (kp : ∀ b ∈ fp, b ≠ it → ∃ p, ∀ i B' V' m', inv i B' V' m' → B.le B' → At B' V' b p)
    (turn : ∀ i v R' B' V' m' s', i < cnt → P i v → B.le B' → inv i B' V' m' → St s₀ R' Z B' V' L m' s' →
      wpAny (model prog w) A (storeName env x v) (fun _ s₂ => wpAny (model prog w) A (execs body env) (fun f s₃ => (f = .next ∨ f = .cont) ∧ ∃ B'' V'' m'', B'.le B'' ∧ inv (i + 1) B'' V'' m'' ∧ St s₀ R' Z B'' V'' L m'' s₃) (fun _ _ => False) s₂) (fun _ _ => False) s')
    (done : ∀ B' V' m' s', B.le B' → inv cnt B' V' m' → St s₀ R Z B' V' L m' s' → Q .next s') :
    codeAny (model prog w) A (.forLoop (.Name x px) (.ref it) body [] env) (fun r s' => match r with | .ok f => Q f s' | .error e => cameBackBy (model prog w) A env E e s') s := by
  refine codeAny_forLoop (fun k s' => ∃ i o B' V' m', i ≤ cnt ∧ k = cnt + 1 - i ∧ B.le B' ∧ inv i B' V' m' ∧ St s₀ (R.put it o) Z B' V' L m' s' ∧ SI i s'.heap) ?_ (cnt + 1) ⟨0, o, B, V, m, Nat.zero_le _, rfl, View.le.refl B, h0, F, hst⟩
  rintro k s' ⟨i, o, B', V', m', hi, rfl, hl, hI, F', hS⟩
  by_cases hlt : i < cnt
  · refine W.item i _ _ _ hlt hS fun v h₁ tk₁ hPv hS₁ hk₁ => ?_
    obtain ⟨o₁, ho₁⟩ := exI _ _ hS₁
    have F₁ : St s₀ (R.put it o₁) Z B' V' L m' { s' with heap := h₁, toks := tk₁ } := F'.iter (fun b p hb e => hk₁ b p (by simpa using hb) e) ho₁
    refine wpAny_assign_Name (wpAny_mono (turn i v _ B' V' m' _ hlt hPv hl hI F₁) (fun _ s₂ h₂ => wpAny_mono h₂ (fun f s₃ h₃ => ?_) fun _ _ e => e.elim) fun _ _ e => e.elim)
    obtain ⟨hf, B'', V'', m'', hl', hI', F₃⟩ := h₃
    have fin : ∃ m_1, m_1 < cnt + 1 - i ∧ ∃ i o B' V' m', i ≤ cnt ∧ m_1 = cnt + 1 - i ∧ B.le B' ∧ inv i B' V' m' ∧ St s₀ (R.put it o) Z B' V' L m' s₃ ∧ SI i s₃.heap := by
      refine ⟨cnt + 1 - (i + 1), by omega, i + 1, o₁, B'', V'', m'', hlt, rfl, hl.trans hl', hI', F₃, W.frame _ _ _ hS₁ fun b hb p e => ?_⟩
      by_cases hbi : b = it
      · subst hbi
        have e2 := F₃.r b o₁ (vput_self _ _ _)
        have e : h₁.get? b = some p := e
        rw [ho₁] at e; cases e
        exact e2
      · obtain ⟨q, hq⟩ := kp b hb hbi
        have e1 : h₁.get? b = some q := (hq i B' V' m' hI hl).get F₁.toFz
        have e2 := (hq (i + 1) B'' V'' m'' hI' (hl.trans hl')).get F₃.toFz
        have e : h₁.get? b = some p := e
        rw [e1] at e; cases e
        exact e2
    rcases hf with rfl | rfl <;> exact fin
  · have hin : i = cnt := by omega
    subst hin
    refine W.done _ _ _ hS fun h₁ tk₁ hk₁ => wpAny_execs_nil ?_
    refine done B' V' m' _ hl hI ?_
    have F'' := St.unR hR F'
    obtain ⟨oL, es, ep, hoL, r⟩ := F'.ns
    refine ⟨⟨fun a p e => hk₁ a p (by simpa using fun h : a = it => by rw [h, hR] at e; cases e) (F''.r a p e), fun a p e => ⟨hk₁ a p (by simpa using (put_none (F'.b a p e).2).1) (F'.b a p e).1, (F''.b a p e).2⟩,
      fun i a p e => ⟨hk₁ a p (by simpa using (put_none (F'.v i a p e).2.1).1) (F'.v i a p e).1, (F''.v i a p e).2⟩, F'.inj, F'.same.up, F'.z⟩, ⟨oL, es, ep, hk₁ L oL (by simpa using (put_none F'.lR).1) hoL, r⟩, F''.lR, F'.lB, F'.lV⟩

theorem for_list {vs : List Value} {px : Pos} {body : List Stmt} {Q : Flow → Shared → Prop} (inv : Nat → View → Dyn → (Str → Option Value) → Prop)
    (F : St s₀ R Z B V L m s) (hA : A.handled = none) (hl : At B V l (listO vs k)) (h0 : inv 0 B V m)
    (kp : ∀ i B' V' m', inv i B' V' m' → B.le B' → At B' V' l (listO vs k))
    (turn : ∀ i v R' B' V' m' s', vs[i]? = some v → B.le B' → inv i B' V' m' → St s₀ R' Z B' V' L m' s' →
      wpAny (model prog w) A (storeName env x v) (fun _ s₂ => wpAny (model prog w) A (execs body env) (fun f s₃ => (f = .next ∨ f = .cont) ∧ ∃ B'' V'' m'', B'.le B'' ∧ inv (i + 1) B'' V'' m'' ∧ St s₀ R' Z B'' V'' L m'' s₃) (fun _ _ => False) s₂) (fun _ _ => False) s')
    (done : ∀ B' V' m' s', B.le B' → inv vs.length B' V' m' → St s₀ R Z B' V' L m' s' → Q .next s') :
    wpAny (model prog w) A (pyIter (.ref l)) (fun it s₂ => codeAny (model prog w) A (.forLoop (.Name x px) it body [] env) (fun r s' => match r with | .ok f => Q f s' | .error e => cameBackBy (model prog w) A env E e s') s₂) E s := by
  have hg := hl.get F.toFz
  have hL : s.heap.IsList l vs.toArray := ⟨_, hg, rfl, k, rfl⟩
  refine wpAny_pyIter_list hL ?_
  have hne : l ≠ s.heap.objs.size := Nat.ne_of_lt (Heap.lt_size hg)
  have W := Walks.list (prog := prog) (w := w) hA s.heap.objs.size l hne vs.toArray
  rw [List.size_toArray] at W
  have hk : ∀ b o, s.heap.get? b = some o → (s.heap.push { cls := .type "list_iterator", data := .fields #[.ref l, .int 0 0] }).get? b = some o := fun b o e => Heap.get?_push_of_some _ e
  have ho := Heap.get?_push_size s.heap (o := { cls := .type "list_iterator", data := .fields #[.ref l, .int 0 0] }) rfl
  refine for_walks (R := R) (o := { cls := .type "list_iterator", data := .fields #[.ref l, .int 0 0] }) inv W (F.toFz.fresh (get_fresh _)).1 (fun i h st => let ⟨o, ho, _⟩ := st.1; ⟨o, ho⟩) (F.addR (tk := s.toks) (get_fresh _) hk ho) h0 ⟨⟨_, ho, rfl, rfl⟩, ⟨_, hk _ _ hg, rfl, k, rfl⟩⟩ ?_ ?_ done
  · intro b hb hbi
    have : b = l := by simpa [hbi] using hb
    subst this
    exact ⟨_, kp⟩
  · intro i v R' B' V' m' s' hi hP hl' hI F'
    exact turn i v R' B' V' m' s' (by simpa using hP) hl' hI F'
end

end
section
section
variable {prog : Program} {w : World} {A : Around} {E : Value → Shared → Prop} {s₀ s : Shared} {R Z B : View} {V : Dyn} {L a b l C it : Addr} {m mg mb : Str → Option Value} {env : Env} {x : Str} {k n cnt : Nat} {o o' : Obj} {h' : Heap} {tk : Nat} {P : Nat → Value → Prop} {SI : Nat → Heap → Prop} {fp : List Addr}

def plainIt (n : String) : Bool := !(["enumerate", "zip", "dict_itemiterator", "dict_reverseitemiterator", "odict_iterator", "itertools.zip_longest", "itertools.pairwise"].contains n)
def ItObj (h : Heap) (it : Addr) (o : Obj) : Prop := h.get? it = some o ∧ ∃ n fs, o.cls = .type n ∧ o.data = .fields fs ∧ plainIt n = true
theorem let_it {M : Model} {Q : Unit → Shared → Prop} {target : Expr} {v : Value} (ho : ItObj s.heap it o) (h : Q () s) : wpAny M A (letOwnedTupleGo target (.ref it) v) Q E s := by
  obtain ⟨ho, n, fs, hc, hd, hp⟩ := ho
  have hp' : (["enumerate", "zip", "dict_itemiterator", "dict_reverseitemiterator", "odict_iterator", "itertools.zip_longest", "itertools.pairwise"].contains n) = false := by
    unfold plainIt at hp
    cases q : (["enumerate", "zip", "dict_itemiterator", "dict_reverseitemiterator", "odict_iterator", "itertools.zip_longest", "itertools.pairwise"].contains n) with
    | false => rfl
    | true => rw [q] at hp; cases hp
  unfold letOwnedTupleGo
  split
  all_goals first
    | exact wpAny_pure h
    | (cases v
       all_goals first
         | exact wpAny_pure h
         | (refine wpAny_bind (wpAny_load ho ?_)
            rw [hc, hd]
            dsimp only
            rw [hp', Bool.false_and]
            exact wpAny_pure h))

structure Opened (prog : Program) (w : World) (A : Around) (s₀ : Shared) (R Z B : View) (V : Dyn) (L : Addr) (m : Str → Option Value) (keep : View → Dyn → Prop) (cnt : Nat) (P : Nat → Value → Prop) (it : Addr) (o : Obj) (SI : Nat → Heap → Prop) (fp : List Addr) (s : Shared) : Prop where
  W : Walks prog w A it fp [it] cnt P SI
  hR : R it = none
  exI : ∀ i h, SI i h → ∃ o, ItObj h it o
  F : St s₀ (R.put it o) Z B V L m s
  st : SI 0 s.heap
  kp : ∀ b ∈ fp, b ≠ it → ∃ p, ∀ B' V', keep B' V' → At B' V' b p

/-- what a value hands out to a for -/
def Src (prog : Program) (w : World) (A : Around) (B : View) (V : Dyn) (x : Value) (keep : View → Dyn → Prop) (cnt : Nat) (P : Nat → Value → Prop) : Prop :=
  ∀ s₀ s R Z L m E (Q : Value → Shared → Prop), St s₀ R Z B V L m s → (∀ it o SI fp s', Opened prog w A s₀ R Z B V L m keep cnt P it o SI fp s' → Q (.ref it) s') → wpAny (model prog w) A (pyIter x) Q E s

theorem Src.list {vs : List Value} (hA : A.handled = none) (hl : At B V l (listO vs k)) : Src prog w A B V (.ref l) (fun B' V' => At B' V' l (listO vs k)) vs.length (fun i v => vs[i]? = some v) := by
  intro s₀ s R Z L m E Q F h
  have hg := hl.get F.toFz
  refine wpAny_pyIter_list (items := vs.toArray) ⟨_, hg, rfl, k, rfl⟩ ?_
  have hne : l ≠ s.heap.objs.size := Nat.ne_of_lt (Heap.lt_size hg)
  have W := Walks.list (prog := prog) (w := w) hA s.heap.objs.size l hne vs.toArray
  rw [List.size_toArray] at W
  have hk : ∀ b o, s.heap.get? b = some o → (s.heap.push { cls := .type "list_iterator", data := .fields #[.ref l, .int 0 0] }).get? b = some o := fun b o e => Heap.get?_push_of_some _ e
  have ho := Heap.get?_push_size s.heap (o := { cls := .type "list_iterator", data := .fields #[.ref l, .int 0 0] }) rfl
  refine h _ _ (fun i h => h.IsListIter s.heap.objs.size l i ∧ h.IsList l vs.toArray) _ _ ⟨by simpa using W, (F.toFz.fresh (get_fresh _)).1, fun i h (st : _ ∧ _) => by
    obtain ⟨⟨o, ho, hc, hd⟩, _⟩ := st
    exact ⟨o, ho, _, _, hc, hd, by decide⟩, F.addR (tk := s.toks) (get_fresh _) hk ho, ⟨⟨_, ho, rfl, rfl⟩, ⟨_, hk _ _ hg, rfl, k, rfl⟩⟩, fun b hb hbi => ?_⟩
  have : b = l := by simpa [hbi] using hb
  subst this
  exact ⟨_, fun _ _ h => h⟩
theorem Src.tuple {vs : List Value} (hA : A.handled = none) (hl : B l = some (tupO vs)) : Src prog w A B V (.ref l) (fun B' V' => B' l = some (tupO vs)) vs.length (fun i v => vs[i]? = some v) := by
  intro s₀ s R Z L m E Q F h
  have hg := (F.b _ _ hl).1
  refine wpAny_pyIter_tuple (items := vs.toArray) ⟨_, hg, rfl, _, rfl⟩ ?_
  have hne : l ≠ s.heap.objs.size := Nat.ne_of_lt (Heap.lt_size hg)
  have W := Walks.tuple (prog := prog) (w := w) hA s.heap.objs.size l hne vs.toArray
  rw [List.size_toArray] at W
  have hk : ∀ b o, s.heap.get? b = some o → (s.heap.push { cls := .type "tuple_iterator", data := .fields #[.ref l, .int 0 0] }).get? b = some o := fun b o e => Heap.get?_push_of_some _ e
  have ho := Heap.get?_push_size s.heap (o := { cls := .type "tuple_iterator", data := .fields #[.ref l, .int 0 0] }) rfl
  refine h _ _ (fun i h => h.IsTupleIter s.heap.objs.size l i ∧ h.IsTuple l vs.toArray) _ _ ⟨by simpa using W, (F.toFz.fresh (get_fresh _)).1, fun i h (st : _ ∧ _) => by
    obtain ⟨⟨o, ho, hc, hd⟩, _⟩ := st
    exact ⟨o, ho, _, _, hc, hd, by decide⟩, F.addR (tk := s.toks) (get_fresh _) hk ho, ⟨⟨_, ho, rfl, rfl⟩, ⟨_, hk _ _ hg, rfl, _, rfl⟩⟩, fun b hb hbi => ?_⟩
  have : b = l := by simpa [hbi] using hb
  subst this
  exact ⟨_, fun _ _ h => .ofB h⟩

def LI (s₀ : Shared) (R Z : View) (it : Addr) (SI : Nat → Heap → Prop) (B : View) (inv : Nat → View → Dyn → (Str → Option Value) → Prop) (cnt : Nat) (L : Addr) (k : Nat) (s' : Shared) : Prop :=
  ∃ i o B' V' m', i ≤ cnt ∧ k = cnt + 1 - i ∧ B.le B' ∧ inv i B' V' m' ∧ St s₀ (R.put it o) Z B' V' L m' s' ∧ SI i s'.heap
def After (s₀ : Shared) (R' Z B' : View) (inv : Nat → View → Dyn → (Str → Option Value) → Prop) (i : Nat) (L : Addr) (s₃ : Shared) : Prop :=
  ∃ B'' V'' m'', B'.le B'' ∧ inv (i + 1) B'' V'' m'' ∧ St s₀ R' Z B'' V'' L m'' s₃

theorem next_step {Q : Option Value → Shared → Prop} {inv : Nat → View → Dyn → (Str → Option Value) → Prop}
    (W : Walks prog w A it fp [it] cnt P SI) (hR : R it = none) (exI : ∀ i h, SI i h → ∃ o, ItObj h it o)
    (kp : ∀ b ∈ fp, b ≠ it → ∃ p, ∀ i B' V' m', inv i B' V' m' → B.le B' → At B' V' b p) (hI : LI s₀ R Z it SI B inv cnt L k s)
    (some_ : ∀ i v R' B' V' m' s₁, i < cnt → P i v → B.le B' → inv i B' V' m' → St s₀ R' Z B' V' L m' s₁ → (∃ o, ItObj s₁.heap it o) → (∀ s₃, After s₀ R' Z B' inv i L s₃ → ∃ m, m < k ∧ LI s₀ R Z it SI B inv cnt L m s₃) → Q (some v) s₁)
    (none_ : ∀ B' V' m' s₁, B.le B' → inv cnt B' V' m' → St s₀ R Z B' V' L m' s₁ → Q none s₁) : wpAny (model prog w) A (pyNext (.ref it)) Q E s := by
  obtain ⟨i, o, B', V', m', hi, rfl, hl, hI, F', hS⟩ := hI
  by_cases hlt : i < cnt
  · refine W.item i _ _ _ hlt hS fun v h₁ tk₁ hPv hS₁ hk₁ => ?_
    obtain ⟨o₁, ho₁'⟩ := exI _ _ hS₁
    have ho₁ := ho₁'.1
    have F₁ : St s₀ (R.put it o₁) Z B' V' L m' { s with heap := h₁, toks := tk₁ } := F'.iter (fun b p hb e => hk₁ b p (by simpa using hb) e) ho₁
    refine some_ i v _ B' V' m' _ hlt hPv hl hI F₁ ⟨_, ho₁'⟩ fun s₃ h₃ => ?_
    obtain ⟨B'', V'', m'', hl', hI', F₃⟩ := h₃
    refine ⟨cnt + 1 - (i + 1), by omega, i + 1, o₁, B'', V'', m'', hlt, rfl, hl.trans hl', hI', F₃, W.frame _ _ _ hS₁ fun b hb p e => ?_⟩
    by_cases hbi : b = it
    · subst hbi
      have e2 := F₃.r b o₁ (vput_self _ _ _)
      have e : h₁.get? b = some p := e
      rw [ho₁] at e; cases e
      exact e2
    · obtain ⟨q, hq⟩ := kp b hb hbi
      have e1 : h₁.get? b = some q := (hq i B' V' m' hI hl).get F₁.toFz
      have e2 := (hq (i + 1) B'' V'' m'' hI' (hl.trans hl')).get F₃.toFz
      have e : h₁.get? b = some p := e
      rw [e1] at e; cases e
      exact e2
  · have hin : i = cnt := by omega
    subst hin
    refine W.done _ _ _ hS fun h₁ tk₁ hk₁ => none_ B' V' m' _ hl hI ?_
    have F'' := St.unR hR F'
    obtain ⟨oL, es, ep, hoL, r⟩ := F'.ns
    refine ⟨⟨fun a p e => hk₁ a p (by simpa using fun h : a = it => by rw [h, hR] at e; cases e) (F''.r a p e), fun a p e => ⟨hk₁ a p (by simpa using (put_none (F'.b a p e).2).1) (F'.b a p e).1, (F''.b a p e).2⟩,
      fun i a p e => ⟨hk₁ a p (by simpa using (put_none (F'.v i a p e).2.1).1) (F'.v i a p e).1, (F''.v i a p e).2⟩, F'.inj, F'.same.up, F'.z⟩, ⟨oL, es, ep, hk₁ L oL (by simpa using (put_none F'.lR).1) hoL, r⟩, F''.lR, F'.lB, F'.lV⟩

def BodyEnd (f : Flow) (P : Prop) : Prop := (f = .next ∨ f = .cont) ∧ P
theorem BodyEnd.next {P : Prop} (h : P) : BodyEnd .next P := ⟨.inl rfl, h⟩
theorem BodyEnd.cont {P : Prop} (h : P) : BodyEnd .cont P := ⟨.inr rfl, h⟩
/-- a for over a source -/
theorem for_src {keep : View → Dyn → Prop} {target : Expr} {body : List Stmt} {Q : Flow → Shared → Prop} {xv : Value} (inv : Nat → View → Dyn → (Str → Option Value) → Prop)
    (F : St s₀ R Z B V L m s) (src : Src prog w A B V xv keep cnt P) (h0 : inv 0 B V m) (kp : ∀ i B' V' m', inv i B' V' m' → B.le B' → keep B' V')
    (turn : ∀ i v R' B' V' m' s', i < cnt → P i v → B.le B' → inv i B' V' m' → St s₀ R' Z B' V' L m' s' →
      wpAny (model prog w) A (assign target env v) (fun _ s₂ => wpAny (model prog w) A (execs body env) (fun f s₃ => BodyEnd f (After s₀ R' Z B' inv i L s₃)) (fun _ _ => False) s₂) (fun _ _ => False) s')
    (done : ∀ B' V' m' s', B.le B' → inv cnt B' V' m' → St s₀ R Z B' V' L m' s' → Q .next s') :
    wpAny (model prog w) A (pyIter xv) (fun it s₂ => codeAny (model prog w) A (.forLoop target it body [] env) (fun r s' => match r with | .ok f => Q f s' | .error e => cameBackBy (model prog w) A env E e s') s₂) E s := by
  refine src _ _ _ _ _ _ _ _ F fun it o SI fp s' O => ?_
  refine codeAny_forLoop_any (LI s₀ R Z it SI B inv cnt L) (fun k s' hI => ?_) (cnt + 1) ⟨0, o, B, V, m, Nat.zero_le _, rfl, View.le.refl B, h0, O.F, O.st⟩
  refine next_step O.W O.hR O.exI (fun b hb hbi => let ⟨p, hp⟩ := O.kp b hb hbi; ⟨p, fun i B' V' m' hI hl => hp _ _ (kp i B' V' m' hI hl)⟩) hI (fun i v R' B' V' m' s₁ hi hP hl hI' F' hit back => ?_) fun B' V' m' s₁ hl hI' F' => wpAny_execs_nil (done B' V' m' s₁ hl hI' F')
  obtain ⟨oi, hoi⟩ := hit
  refine let_it hoi (wpAny_mono (turn i v R' B' V' m' s₁ hi hP hl hI' F') (fun _ s₂ h₂ => wpAny_mono h₂ (fun f s₃ h₃ => ?_) fun _ _ e => e.elim) fun _ _ e => e.elim)
  obtain ⟨hf, h₃⟩ := h₃
  rcases hf with rfl | rfl <;> exact back _ h₃
end
section
variable {prog : Program} {w : World} {A : Around} {E : Value → Shared → Prop} {s₀ s s' : Shared} {R R' Z B B' : View} {V V' : Dyn} {L a b l C it c : Addr} {m m' mg mb : Str → Option Value} {env : Env} {x : Str} {k n cnt : Nat} {o o' : Obj} {h' : Heap} {tk : Nat} {P : Nat → Value → Prop} {SI : Nat → Heap → Prop} {fp : List Addr}

theorem Src.range {n : Nat} {t u v : Tok} (hA : A.handled = none) (hl : B l = some { cls := .type "range", dict := none, data := .fields #[.int 0 t, .int (n : Int) u, .int 1 v], slots := #[] }) (hn : n ≤ 1000) :
    Src prog w A B V (.ref l) (fun _ _ => True) n (fun i v => ∃ t, v = .int (i : Int) t) := by
  intro s₀ s R Z L m E Q F h
  have hg := (F.b _ _ hl).1
  have hsz : Builtin.Range.rangeSize 0 (n : Int) 1 = (n : Int) := by rw [rangeSize_one]; split <;> omega
  refine wpAny_pyIter_range (a := 0) (b := (n : Int)) (c := 1) (t := t) (u := u) (v := v) hg (small_one (by omega) (by omega) (by omega) (by omega)) ?_
  rw [hsz]
  have W := LCg.range_walks (prog := prog) (w := w) (I := s.heap.objs.size) hA 0 n
  have hk : ∀ b o, s.heap.get? b = some o → (s.heap.push { cls := .type "range_iterator", data := .fields #[rawInt 0, rawInt (n : Int), rawInt 1] }).get? b = some o := fun b o e => Heap.get?_push_of_some _ e
  have ho := Heap.get?_push_size s.heap (o := { cls := .type "range_iterator", data := .fields #[rawInt 0, rawInt (n : Int), rawInt 1] }) rfl
  refine h _ _ (fun i h => IsRangeIter h s.heap.objs.size (0 + (i : Nat) * 1) ((n : Int) - (i : Nat)) 1) [s.heap.objs.size] _ ⟨?_, (F.toFz.fresh (get_fresh _)).1, fun i h st => ⟨_, st, _, _, rfl, rfl, by decide⟩, F.addR (tk := s.toks) (get_fresh _) hk ho, by simpa [IsRangeIter] using ho, fun b hb hbi => ?_⟩
  · have e : (fun (i : Nat) (v : Value) => ∃ t, v = Value.int (0 + (i : Int)) t) = fun i v => ∃ t, v = .int (i : Int) t := by funext i v; rw [Int.zero_add]
    rw [e] at W
    exact W
  · exact absurd (by simpa using hb) hbi

noncomputable def restBut (it : Addr) (h : Heap) (B : View) (V : Dyn) : View := fun a => if a = it then none else restOf h B V a
theorem restBut_put {h : Heap} (e : restOf h B V it = some o) : (restBut it h B V).put it o = restOf h B V := by
  funext a
  unfold View.put restBut
  split
  · rename_i q; subst q; exact e.symm
  · rfl
theorem St.outerG (F : St s₀ R Z B V L m s) (hR : ∀ a o, R a = some o → R' a = some o) (hL : ∀ o, s.heap.get? L = some o → R' L = some o) (F' : Fz s₀ R' B B' V' s') : St s₀ R Z B' V' L m s' := by
  obtain ⟨oL, es, ep, hoL, r⟩ := id F.ns
  have rL := hL _ hoL
  have key : ∀ a o, R' a = some o → B' a = none ∧ ∀ i p, V' i ≠ some (a, p) := fun a o e => by
    refine ⟨?_, fun i p q => ?_⟩
    · cases q : B' a with
      | none => rfl
      | some p => have := (F'.b a p q).2; rw [e] at this; cases this
    · have := (F'.v i a p q).2.1; rw [e] at this; cases this
  refine ⟨⟨fun a o e => F'.r a o (hR a o e), fun a o e => ⟨(F'.b a o e).1, ?_⟩, fun i a o e => ⟨(F'.v i a o e).1, ?_, (F'.v i a o e).2.2⟩, F'.inj, F'.same, F.z.trans F'.z⟩, ⟨oL, es, ep, F'.r _ _ rL, r⟩, F.lR, (key _ _ rL).1, (key _ _ rL).2⟩
  · cases q : R a with
    | none => rfl
    | some p => have := (key a p (hR a p q)).1; rw [e] at this; cases this
  · cases q : R a with
    | none => rfl
    | some p => exact absurd e ((key a p (hR a p q)).2 i o)
theorem St.addR' (F : St s₀ R Z B V L m s) (ho : s.heap.get? c = some o) (hB : B c = none) (hV : ∀ i p, V i ≠ some (c, p)) (hL : c ≠ L) : St s₀ (R.put c o) Z B V L m s := by
  refine ⟨⟨fun a p e => ?_, fun a p e => ⟨(F.b a p e).1, ?_⟩, fun i a p e => ⟨(F.v i a p e).1, ?_, (F.v i a p e).2.2⟩, F.inj, F.same, F.z⟩, F.ns, ?_, F.lB, F.lV⟩
  · unfold View.put at e
    split at e
    · rename_i h; subst h; cases e; exact ho
    · exact F.r a p e
  · unfold View.put
    rw [if_neg (fun h => by subst h; rw [hB] at e; cases e)]; exact (F.b a p e).2
  · unfold View.put
    rw [if_neg (fun h => by subst h; exact hV i p e)]; exact (F.v i a p e).2.1
  · unfold View.put; rw [if_neg (Ne.symm hL)]; exact F.lR
theorem St.change (F : St s₀ (R.put c o) Z B V L m s) (hR : R c = none) (hs : Heap.SameBut c s.heap h') : St s₀ R Z B V L m { s with heap := h', toks := tk } := by
  have F'' := St.unR hR F
  have k : ∀ b p, b ≠ c → s.heap.get? b = some p → h'.get? b = some p := fun b p hb e => (hs.2 b hb).trans e
  obtain ⟨oL, es, ep, hoL, r⟩ := F.ns
  exact ⟨⟨fun a p e => k a p (fun h => by rw [h, hR] at e; cases e) (F''.r a p e), fun a p e => ⟨k a p (put_none (F.b a p e).2).1 (F.b a p e).1, (F''.b a p e).2⟩,
    fun i a p e => ⟨k a p (put_none (F.v i a p e).2.1).1 (F.v i a p e).1, (F''.v i a p e).2⟩, F.inj, F.same.up, F.z⟩, ⟨oL, es, ep, k L oL (put_none F.lR).1 hoL, r⟩, F''.lR, F.lB, F.lV⟩

/-- a frame of a comprehension's own, the iterator apart -/
theorem St.enterBut {C : Addr} {m' : Str → Option Value} {h₁ : Heap} {tk : Nat} (F : St s₀ (R.put it o) Z B V L m s) (hR : R it = none) (hn : s.heap.get? C = none) (hns : h₁.Ns C m') (k : ∀ b o, s.heap.get? b = some o → h₁.get? b = some o) :
    ∃ R', R' it = none ∧ (∀ a o, R a = some o → R' a = some o) ∧ C ≠ L ∧ St s₀ (R'.put it o) B B V C m' { s with heap := h₁, toks := tk } ∧
      ∀ B' V' m'' s'', St s₀ R' B B' V' C m'' s'' → St s₀ R Z B' V' L m s'' ∧ ∃ oC, R C = none ∧ St s₀ (R.put C oC) Z B' V' L m s'' := by
  have I := F.inner
  obtain ⟨fR, fB, fV⟩ := I.fresh hn
  have hit : restOf s.heap B V it = some o := by
    refine restOf_of (F.r it o (vput_self _ _ _)) ?_ fun i p q => ?_
    · cases q : B it with
      | none => rfl
      | some p => have := (F.b it p q).2; rw [vput_self] at this; cases this
    · have := (F.v i it p q).2.1; rw [vput_self] at this; cases this
  obtain ⟨oL, es, ep, hoL, r⟩ := id F.ns
  have hCL : C ≠ L := fun h => by rw [h, hoL] at hn; cases hn
  have hLit : L ≠ it := (put_none F.lR).1
  have F₀ := St.unR hR F
  have hsub : ∀ a p, R a = some p → restBut it s.heap B V a = some p := fun a p e => by
    have hai : a ≠ it := fun h => by rw [h, hR] at e; cases e
    unfold restBut; rw [if_neg hai]
    refine restOf_of (F₀.r a p e) ?_ fun i q e' => ?_
    · cases q : B a with
      | none => rfl
      | some q' => have := (F₀.b a q' q).2; rw [e] at this; cases this
    · have := (F₀.v i a q e').2.1; rw [e] at this; cases this
  refine ⟨restBut it s.heap B V, if_pos rfl, hsub, hCL, ?_, fun B' V' m'' s'' F' => ?_⟩
  · rw [restBut_put hit]
    exact ⟨I.keep k, hns, fR, fB, fV⟩
  · have F₂ : St s₀ R Z B' V' L m s'' := F₀.outerG hsub (fun p e => by unfold restBut; rw [if_neg hLit]; exact restOf_of e F.lB F.lV) F'.toFz
    have hRC : R C = none := by
      cases q : R C with
      | none => rfl
      | some p => have := hsub C p q; rw [F'.lR] at this; cases this
    obtain ⟨oC, _, _, hoC, _⟩ := F'.ns
    exact ⟨F₂, oC, hRC, F₂.addR' hoC F'.lB F'.lV hCL⟩
end

end
section
section
variable {prog : Program} {w : World} {A : Around} {E : Value → Shared → Prop} {s₀ s s' : Shared} {R R' Z B B' : View} {V V' : Dyn} {L a b l C it c D : Addr} {m m' mg mb : Str → Option Value} {env cenv : Env} {x : Str} {k n cnt : Nat} {o o' : Obj} {h' : Heap} {tk : Nat} {P : Nat → Value → Prop} {SI : Nat → Heap → Prop} {fp : List Addr}
  {elt iter target : Expr} {ifs : List Expr} {scope : Scope} {cl : List (Str × Addr)} {pos : Pos}

def CompGo (prog : Program) (w : World) (A : Around) (E : Value → Shared → Prop) (e : Expr) (scope : Scope) (cl : List (Str × Addr)) (env : Env) (newAcc : Sem Value) (use : Option (Value → Sem Unit)) (Q : Value → Shared → Prop) (x : Value) (s : Shared) : Prop :=
  wpAny (model prog w) A (pyIter x) (fun it s₂ => wpAny (model prog w) A newAcc (fun acc s₃ => wpAny (model prog w) A (newFunctionEnv scope env.globals cl [] env.qual none .none (some env)) (fun cenv s₄ =>
    codeAny (model prog w) A (.compStart e 0 it acc { cenv with scope := relabel scope env }) (compPost (model prog w) A E use Q acc cenv.locals) s₄) E s₃) E s₂) E s

theorem x_ListComp {g : List Comprehension} {Q : Value → Shared → Prop}
    (h : wpAny (model prog w) A (eval iter env) (fun x s₁ => CompGo prog w A E (.ListComp elt (⟨target, iter, ifs, 0⟩ :: g) scope pos) scope cl env (newList []) none Q x s₁) E s)
    (hclos : closureFor scope env = pure cl := by rfl) (hkind : scope.kind = .function := by rfl) (hnames : ∀ y ∈ scope.names, y.2 = .local → scope.names.lookup y.1 = some .local := by decide)
    (hs : ∀ x, foldedSetIterable iter env x = pure x := by intro _; rfl) :
    wpAny (model prog w) A (eval (.ListComp elt (⟨target, iter, ifs, 0⟩ :: g) scope pos) env) Q E s := by
  rw [eval_ListComp]
  exact wpAny_comprehension_free (use := none) rfl hs hclos hkind hnames h
theorem x_AssignListComp {g : List Comprehension} {y : Str} {py spos : Pos} {Q : Flow → Shared → Prop}
    (h : wpAny (model prog w) A (eval iter env) (fun x s₁ => CompGo prog w A E (.ListComp elt (⟨target, iter, ifs, 0⟩ :: g) scope pos) scope cl env (newList []) (some (assign (.Name y py) env)) (fun _ s' => Q .next s') x s₁) E s)
    (hsw : swapsWith (.ListComp elt (⟨target, iter, ifs, 0⟩ :: g) scope pos) (some (.Name y py)) spos.line env = pure true := by rfl)
    (hclos : closureFor scope env = pure cl := by rfl) (hkind : scope.kind = .function := by rfl) (hnames : ∀ y ∈ scope.names, y.2 = .local → scope.names.lookup y.1 = some .local := by decide)
    (hs : ∀ x, foldedSetIterable iter env x = pure x := by intro _; rfl) :
    wpAny (model prog w) A (exec (.Assign [.Name y py] (.ListComp elt (⟨target, iter, ifs, 0⟩ :: g) scope pos) spos) env) Q E s := by
  rw [exec_Assign_Name_used _ _ _ _ hsw]
  refine wpAny_bind (wpAny_standAt (wpAny_bind ?_))
  show wpAny _ A (do let _ ← comprehension (.ListComp elt (⟨target, iter, ifs, 0⟩ :: g) scope pos) scope env _ (newList []) false (eval iter env) (some (assign (.Name y py) env))) _ _ s
  exact wpAny_bind (wpAny_mono (wpAny_comprehension_free (use := some (assign (.Name y py) env)) (Q := fun _ s' => Q .next s') rfl hs hclos hkind hnames h) (fun _ s' hq => wpAny_pure (wpAny_pure hq)) fun _ _ e => e)

theorem comp_enter {e : Expr} {newAcc : Sem Value} {use : Option (Value → Sem Unit)} {Q : Value → Shared → Prop} {i : Nat × Nat} {o₀ : Obj} {keep : View → Dyn → Prop} {xv : Value}
    (FIN : Addr → View → Dyn → Prop)
    (F : St s₀ R Z B V L m s) (src : Src prog w A B V xv keep cnt P)
    (hacc : ∀ (Q : Value → Shared → Prop) E s, (∀ D h', D = s.heap.objs.size → h' = s.heap.push o₀ → Q (.ref D) { s with heap := h' }) → wpAny (model prog w) A newAcc Q E s) (ho₀ : o₀.isFreed = false)
    (hstart : ∀ {it acc env s} {R : Result → Shared → Prop}, codeAny (model prog w) A (.compLoop e 0 it acc env) R s → (wpAny (model prog w) A (pyIter it) (fun it' s' => codeAny (model prog w) A (.compLoop e 0 it' acc env) R s') (notedBy (model prog w) A env fun x s' => R (.error x) s') s) → codeAny (model prog w) A (.compStart e 0 it acc env) R s)
    (loop : ∀ it o SI fp D C R' s', R' it = none → B D = none → Walks prog w A it fp [it] cnt P SI → (∀ i h, SI i h → ∃ o, ItObj h it o) → (∀ b ∈ fp, b ≠ it → ∃ p, ∀ B' V', keep B' V' → At B' V' b p) →
      St s₀ (R'.put it o) B B (V.put i (D, o₀)) C (fun _ => none) s' → SI 0 s'.heap →
      codeAny (model prog w) A (.compLoop e 0 (.ref it) (.ref D) (compEnvC scope cl C env)) (fun r s'' => r = .ok .next ∧ ∃ B' V' m', St s₀ R' B B' V' C m' s'' ∧ FIN D B' V') s')
    (fin : ∀ D B' V' s'' R₁, (∀ a o, R a = some o → R₁ a = some o) → FIN D B' V' → B.le B' → match use with
      | none => St s₀ R Z B' V' L m s'' → Q (.ref D) s''
      | some u => St s₀ R₁ Z B' V' L m s'' → wpAny (model prog w) A (u (.ref D)) (fun _ s₃ => ∃ B'' V'' m'', St s₀ R₁ Z B'' V'' L m'' s₃ ∧ ∀ s₄, St s₀ R Z B'' V'' L m'' s₄ → Q .none s₄) E s'')
    (hcell : ∀ y ∈ scope.names, y.2 ≠ .cell := by decide) (hkind : scope.kind = .function := by rfl) :
    CompGo prog w A E e scope cl env newAcc use Q xv s := by
  refine src _ _ _ _ _ _ _ _ F fun it o SI fp s₁ O => hacc _ _ _ fun D h₂ hD hh₂ => ?_
  subst hD; subst hh₂
  refine wpAny_newFunctionEnv hcell (by intro y hy; simp at hy) (fun h₁ hns₁ hsb₁ => ?_) hkind
  have nD := get_fresh s₁.heap
  have k₂ : ∀ b p, s₁.heap.get? b = some p → (s₁.heap.push o₀).get? b = some p := fun b p e => Heap.get?_push_of_some _ e
  have F₂ : St s₀ (R.put it o) Z B (V.put i (s₁.heap.objs.size, o₀)) L m { s₁ with heap := s₁.heap.push o₀, toks := s₁.toks } := O.F.newV nD k₂ (Heap.get?_push_size _ ho₀)
  generalize hH : s₁.heap.push o₀ = H₂ at hns₁ hsb₁ k₂ F₂ ⊢
  have nC : H₂.get? H₂.objs.size = none := get_fresh H₂
  have k₃ : ∀ b p, H₂.get? b = some p → h₁.get? b = some p := fun b p e =>
    (hsb₁.2 b (fun h => by rw [h, nC] at e; cases e)).trans (Heap.get?_push_of_some _ e)
  obtain ⟨R', hR', hsub, hCL, F₃, back⟩ := F₂.enterBut (tk := s₁.toks + ([] : List (Str × Value)).length) O.hR nC (m' := fun _ => none) (by simpa using hns₁) k₃
  have st₃ : SI 0 h₁ := O.W.frame _ _ _ O.st fun b _ p e => k₃ b p (k₂ b p e)
  have L1 := loop it o SI fp _ _ R' _ hR' (O.F.fresh nD).2.1 O.W O.exI O.kp F₃ st₃
  have L2 : codeAny (model prog w) A (.compLoop e 0 (.ref it) (.ref s₁.heap.objs.size) (compEnvC scope cl H₂.objs.size env)) (compPost (model prog w) A E use Q (.ref s₁.heap.objs.size) H₂.objs.size)
      { s₁ with heap := h₁, toks := s₁.toks + ([] : List (Str × Value)).length } := codeAny_mono L1 fun r s'' hr => by
    obtain ⟨rfl, B', V', m'', F₄, hf⟩ := hr
    obtain ⟨F₅, oC, hRC, F₆⟩ := back _ _ _ _ F₄
    have hf := fin _ B' V' { s'' with heap := s''.heap } (R.put H₂.objs.size oC) (vput_le hRC) hf F₄.z
    cases use with
    | none =>
      refine ⟨m'', F₄.ns, fun h' hs => ?_⟩
      have hf := fin _ B' V' { s'' with heap := h' } R (fun _ _ e => e) (by assumption) F₄.z
      exact hf (F₆.change hRC hs)
    | some u =>
      refine wpAny_mono (hf F₆) (fun _ s₃ h₃ => ?_) fun _ _ e => e
      obtain ⟨B'', V'', mm, F₇, hq⟩ := h₃
      have h5 := F₇.r H₂.objs.size oC (vput_self _ _ _)
      obtain ⟨oC', es, ep, hoC', r⟩ := F₄.ns
      have h6 := F₆.r H₂.objs.size oC (vput_self _ _ _)
      have : oC = oC' := by
        have h6 : s''.heap.get? H₂.objs.size = some oC := h6
        rw [hoC'] at h6; exact (Option.some.inj h6).symm
      subst this
      exact ⟨m'', ⟨_, es, ep, h5, r⟩, fun h' hs => hq _ (F₇.change hRC hs)⟩
  exact hstart L2 (O.W.self 0 _ _ _ st₃ L2)
end

end
section
section
variable {prog : Program} {w : World} {A : Around} {E : Value → Shared → Prop} {s₀ s s' : Shared} {R R' Z B B' : View} {V V' : Dyn} {L a b l C it c D : Addr} {m m' mg mb : Str → Option Value} {env cenv : Env} {x : Str} {k n k' : Nat} {o o' : Obj} {h' : Heap} {tk : Nat} {v y : Value} {vs ws : List Value} {i : Nat × Nat}

theorem n_list {Q : Value → Shared → Prop} (i : Nat × Nat) (F : St s₀ R Z B V L m s) (h : ∀ l s', B l = none → St s₀ R Z B (V.put i (l, listO vs 0)) L m s' → Q (.ref l) s') (hsz : vs.length ≤ sizeLine := by size_fits) : wpAny (model prog w) A (newList vs) Q E s :=
  wpAny_newObj_type (h _ _ (F.fresh (get_fresh _)).2.1 (F.newV (get_fresh _) (fun _ _ e => Heap.get?_push_of_some _ e) (Heap.get?_push_size _ rfl))) hsz

theorem l_append {Q : Value → Shared → Prop} (F : St s₀ R Z B V L m s) (hv : V i = some (l, listO vs k)) (hsz : vs.length ≤ sizeLine)
    (h : ∀ s', St s₀ R Z B (V.put i (l, listO (vs ++ [v]) (k + 1))) L m s' → Q .none s') : wpAny (model prog w) A (call (.builtin "list.append") [.ref l, v]) Q E s := by
  have ho := (F.v _ _ _ hv).1
  refine wpAny_call_entry slot_list_append ⟨_, ho, rfl⟩ entry_list_append ?_ (args_list_append _ _)
  show wpAny _ _ (updateSeq l (·.push v) >>= fun _ => ret .none) _ _ s
  refine wpAny_bind ?_
  refine wpAny_updateSeq ho rfl (wpAny_pure ⟨.none, rfl, h _ (F.updV hv (Heap.SameBut.update ..) ?_)⟩) (by simpa using hsz) (by simp; omega)
  rw [Heap.get?_update_self _ ho (by rw [Obj.mapSeq_push_plain]; rfl), Obj.mapSeq_push_plain]
  simp

theorem l_pop {Q : Value → Shared → Prop} (F : St s₀ R Z B V L m s) (hv : V i = some (l, listO (vs ++ [v]) k)) (hsz : vs.length < sizeLine)
    (h : ∀ s', St s₀ R Z B (V.put i (l, listO vs (k + 1))) L m s' → Q v s') : wpAny (model prog w) A (call (.builtin "list.pop") [.ref l]) Q E s := by
  have ho := (F.v _ _ _ hv).1
  refine Copied.pop_at (its := (vs ++ [v]).toArray) (y := v) ho (by simp) (fun h' hs ho' => h _ (F.updV hv hs ?_)) (by simp; omega)
  rw [ho']; simp

theorem mapSeq_app (its its2 : Array Value) (n : Nat) : Obj.mapSeq (fun x => x ++ its2) { cls := .type "list", data := .seq its n } = { cls := .type "list", data := .seq (its ++ its2) (if (its ++ its2).size == its.size then n else n + 1) } := by
  simp [Obj.mapSeq]
theorem upd_app (F : St s₀ R Z B V L m s) (hv : V i = some (l, listO vs k)) : ∃ k'', St s₀ R Z B (V.put i (l, listO (vs ++ ws) k'')) L m { s with heap := s.heap.update l (Obj.mapSeq fun x => x ++ ws.toArray), toks := tk } := by
  have ho := (F.v _ _ _ hv).1
  refine ⟨if (vs.toArray ++ ws.toArray).size == vs.toArray.size then k else k + 1, F.updV hv (Heap.SameBut.update ..) ?_⟩
  rw [Heap.get?_update_self _ ho (by rw [mapSeq_app]; rfl), mapSeq_app]
  simp
theorem l_extend {Q : Value → Shared → Prop} (F : St s₀ R Z B V L m s) (hv : V i = some (l, listO vs k)) (hw : At B V b (listO ws k')) (hsz : vs.length + ws.length ≤ sizeLine)
    (h : ∀ k'' s', St s₀ R Z B (V.put i (l, listO (vs ++ ws) k'')) L m s' → Q .none s') : wpAny (model prog w) A (call (.builtin "list.extend") [.ref l, .ref b]) Q E s := by
  have ho := (F.v _ _ _ hv).1
  have hb := hw.get F.toFz
  have hd : ¬(!(vs.toArray).isEmpty && Builtin.List.listTooLong ((vs.toArray).size + (ws.toArray).size)) = true := by
    have : Builtin.List.listTooLong ((vs.toArray).size + (ws.toArray).size) = false := by simp [Builtin.List.listTooLong]; omega
    rw [this, Bool.and_false]; exact Bool.false_ne_true
  obtain ⟨k'', F'⟩ := upd_app (ws := ws) (tk := s.toks) F hv
  exact call_meets PySem.F.slot_list_extend ⟨_, ho, rfl⟩ PySem.F.entry_list_extend (PySem.F.args_list_extend_2 _ _) (AutoSeq1.list_extend_list_list_0 l vs.toArray k b ws.toArray k' hd (by simp; omega) (by simp; omega)) ⟨ho, hb, h _ _ F'⟩
theorem l_iadd {Q : Value → Shared → Prop} (F : St s₀ R Z B V L m s) (hv : V i = some (l, listO vs k)) (hw : At B V b (listO ws k')) (hsz : vs.length + ws.length ≤ sizeLine)
    (h : ∀ k'' s', St s₀ R Z B (V.put i (l, listO (vs ++ ws) k'')) L m s' → Q (.ref l) s') : wpAny (model prog w) A (inplaceOp .Add (.ref l) (.ref b)) Q E s := by
  have ho := (F.v _ _ _ hv).1
  have hb := hw.get F.toFz
  have hd : ¬(!(vs.toArray).isEmpty && Builtin.List.listTooLong ((vs.toArray).size + (ws.toArray).size)) = true := by
    have : Builtin.List.listTooLong ((vs.toArray).size + (ws.toArray).size) = false := by simp [Builtin.List.listTooLong]; omega
    rw [this, Bool.and_false]; exact Bool.false_ne_true
  obtain ⟨k'', F'⟩ := upd_app (ws := ws) (tk := s.toks) F hv
  have ta : s.TypeIs (.ref l) "list" := ⟨_, ho, rfl⟩
  have hlk : typeLookup (.type "list") (dunderI "add") = pure (some (.builtin "list.__iadd__")) := PySem.F.slot_list_iadd.lookup
  have hsq : isSeqSlot (some (.builtin "list.__iadd__")) = true := by decide +kernel
  unfold inplaceOp
  refine wpAny_holding ?_
  have hfi : fillsInplaceSlot (.type "list") "add" (Operator.Add == .Add) = pure false := by
    unfold fillsInplaceSlot
    show (typeLookup (.type "list") (dunderI "add") >>= fun fi => pure (fi.isSome && !isSeqSlot fi)) = pure false
    rw [hlk]
    show (pure _ : Sem Bool) = _
    rw [hsq]; rfl
  refine wpAny_bind (wpAny_typeOf ta (wpAny_bind (wpAny_of_eq hfi ?_)))
  show wpAny _ A (if false = true then _ else _) Q E s
  rw [if_neg Bool.false_ne_true]
  refine wpAny_bind (wpAny_binaryOp1_none (nm := "add") ta ⟨_, hb, rfl⟩ noFill_list_add ?_)
  refine wpAny_bind (wpAny_of_eq (PySem.seqSlot_of PySem.F.slot_list_iadd.lookup hsq) ?_)
  exact wpAny_bind (wpAny_rule (call_meets PySem.F.slot_list_iadd ta PySem.F.entry_list_iadd (PySem.F.args_list_iadd_2 _ _) (AutoSeq1.list___iadd___list_list_0 l vs.toArray k b ws.toArray k' hd (by simp; omega) (by simp; omega)) ⟨ho, hb, h _ _ F'⟩))
theorem l_add {Q : Value → Shared → Prop} (i : Nat × Nat) (F : St s₀ R Z B V L m s) (hv : At B V a (listO vs k)) (hw : At B V b (listO ws k')) (hsz : vs.length + ws.length ≤ sizeLine)
    (h : ∀ l s', B l = none → St s₀ R Z B (V.put i (l, listO (vs ++ ws) 0)) L m s' → Q (.ref l) s') : wpAny (model prog w) A (binaryOp .Add (.ref a) (.ref b)) Q E s := by
  refine PySem.P.add_list (items := vs.toArray) (items2 := ws.toArray) (hv.get F.toFz) (hw.get F.toFz) ?_ (by simpa using hsz)
  refine h _ _ (F.fresh (get_fresh _)).2.1 (F.newV (get_fresh _) (fun _ _ e => Heap.get?_push_of_some _ e) ?_)
  rw [Heap.get?_push_size _ rfl]; simp
theorem l_truthy {Q : Bool → Shared → Prop} (F : St s₀ R Z B V L m s) (hv : At B V l (listO vs k)) (hsz : vs.length ≤ sizeLine) (h : ∀ s', St s₀ R Z B V L m s' → Q (!vs.isEmpty) s') : wpAny (model prog w) A (truthy (.ref l)) Q E s := by
  refine wpAny_truthy_list (items := vs.toArray) ⟨_, hv.get F.toFz, rfl, k, rfl⟩ (by unfold sizeLine at hsz; simp; omega) ?_
  have := h _ (F.toks (tk := s.toks + 1 + 1))
  simpa using this
theorem l_get {Q : Value → Shared → Prop} {j : Nat} {t : Tok} (F : St s₀ R Z B V L m s) (hv : At B V l (listO vs k)) (hj : vs[j]? = some y) (hsz : j < 1000000) (h : Q y s) : wpAny (model prog w) A (getItem (.ref l) (.int (j : Int) t)) Q E s :=
  wpAny_getItem_list (items := vs.toArray) ⟨_, hv.get F.toFz, rfl, k, rfl⟩ (by omega) (by omega) (by simpa using hj) h
theorem m_list {name : Str} {id : String} {pl : Sem Bool} {Q : Value × List Value → Shared → Prop} (F : St s₀ R Z B V L m s) (hv : At B V l (listO vs k)) (slot : Slot "list" name id) (hty : typeOf (.builtin id) = pure (.type "method_descriptor")) (h : Q (.builtin id, [.ref l]) s) :
    wpAny (model prog w) A (getMethod (.ref l) name pl) Q E s :=
  getMethod_builtin ⟨_, hv.get F.toFz, rfl⟩ PySem.F.plainAttrs_list slot hty (fun a e => by cases e; exact ⟨_, hv.get F.toFz, rfl⟩) h
end

end
section
inductive Cat (Out : Nat → List Value → Prop) : Nat → List Value → Prop
  | zero : Cat Out 0 []
  | succ {n : Nat} {ys zs : List Value} : Cat Out n ys → Out n zs → Cat Out (n + 1) (ys ++ zs)
theorem Cat.mono {Out Out' : Nat → List Value → Prop} {n : Nat} {ys : List Value} (h : ∀ j zs, Out j zs → Out' j zs) (c : Cat Out n ys) : Cat Out' n ys := by
  induction c with
  | zero => exact .zero
  | succ _ o ih => exact .succ ih (h _ _ o)
theorem Cat.len {Out : Nat → List Value → Prop} {n q : Nat} {ys : List Value} (h : ∀ j zs, Out j zs → zs.length ≤ q) (c : Cat Out n ys) : ys.length ≤ n * q := by
  induction c with
  | zero => simp
  | succ _ o ih => rw [List.length_append, Nat.succ_mul]; have := h _ _ o; omega

def compBody (e : Expr) (d : Nat) (target iter : Expr) (ifs : List Expr) (emit : Sem Fin → Sem Fin) (it acc : Value) (env : Env) : Sem Fin := do
  standAt iter.pos
  match ← pyNext it with
  | none => pure (.done .next)
  | some v =>
    letOwnedTupleGo target it v
    assign target env v
    let mut ok := true
    for c in ifs do
      if ok then ok ← isTrue c env (eval c env)
    if ok then emit (again (.compLoop e d it acc env)) else again (.compLoop e d it acc env)
def emitL (elt : Expr) (acc : Value) (env : Env) (k : Sem Fin) : Sem Fin :=
  (do let _ ← call (.builtin "list.append") [acc, ← eval elt env] : Sem Unit) >>= fun _ => k
def emitN (e : Expr) (d : Nat) (iter : Expr) (acc : Value) (env : Env) (k : Sem Fin) : Sem Fin := do
  let x ← eval iter env
  standAt iter.pos
  let x ← foldedSetIterable iter env x
  let _ ← runOwn (.compStart e (d + 1) (← holding [x] (pyIter x)) acc env) env
  k
theorem turn_L1 (elt target iter ifs scope pos it acc env) : compTurn (.ListComp elt [⟨target, iter, ifs, 0⟩] scope pos) 0 it acc env = compBody (.ListComp elt [⟨target, iter, ifs, 0⟩] scope pos) 0 target iter ifs (emitL elt acc env) it acc env := by rfl
theorem turn_L20 (elt target iter ifs target' iter' ifs' scope pos it acc env) : compTurn (.ListComp elt [⟨target, iter, ifs, 0⟩, ⟨target', iter', ifs', 0⟩] scope pos) 0 it acc env =
    compBody (.ListComp elt [⟨target, iter, ifs, 0⟩, ⟨target', iter', ifs', 0⟩] scope pos) 0 target iter ifs (emitN (.ListComp elt [⟨target, iter, ifs, 0⟩, ⟨target', iter', ifs', 0⟩] scope pos) 0 iter' acc env) it acc env := by rfl
theorem turn_L21 (elt target iter ifs target' iter' ifs' scope pos it acc env) : compTurn (.ListComp elt [⟨target, iter, ifs, 0⟩, ⟨target', iter', ifs', 0⟩] scope pos) 1 it acc env =
    compBody (.ListComp elt [⟨target, iter, ifs, 0⟩, ⟨target', iter', ifs', 0⟩] scope pos) 1 target' iter' ifs' (emitL elt acc env) it acc env := by rfl

def compTests' (ifs : List Expr) (env : Env) : Sem Bool := forIn ifs true fun c r => if r = true then do let ok ← isTrue c env (eval c env); pure (ForInStep.yield ok) else pure (ForInStep.yield r)
section
variable {prog : Program} {w : World} {A : Around} {E : Value → Shared → Prop} {s₀ s s' : Shared} {R R' Z B B' : View} {V V' : Dyn} {L a b l C it c D : Addr} {m m' mg mb : Str → Option Value} {env cenv : Env} {x : Str} {k n cnt : Nat} {o o' : Obj} {h' : Heap} {tk : Nat} {P : Nat → Value → Prop} {SI : Nat → Heap → Prop} {fp : List Addr}
  {elt iter target : Expr} {ifs : List Expr} {scope : Scope} {cl : List (Str × Addr)} {pos : Pos} {e : Expr} {d : Nat} {acc : Value}
theorem ts_nil {Q : Bool → Shared → Prop} (h : Q true s) : wpAny (model prog w) A (compTests' [] env) Q E s := wpAny_pure h
theorem ts_cons {c : Expr} {r : List Expr} {Q : Bool → Shared → Prop} (h : wpAny (model prog w) A (isTrue c env (eval c env)) (fun b s₁ => if b = true then wpAny (model prog w) A (compTests' r env) Q E s₁ else Q false s₁) E s) :
    wpAny (model prog w) A (compTests' (c :: r) env) Q E s := by
  have hf : ∀ (r : List Expr) (s : Shared), Q false s → wpAny (model prog w) A (forIn r false fun c r => if r = true then do let ok ← isTrue c env (eval c env); pure (ForInStep.yield ok) else pure (ForInStep.yield r)) Q E s := by
    intro r
    induction r with
    | nil => intro s h; exact wpAny_pure h
    | cons a r ih => intro s h; simp only [List.forIn_cons, Bool.false_eq_true, if_false]; exact wpAny_bind (wpAny_pure (ih s h))
  unfold compTests'
  simp only [List.forIn_cons, if_true]
  refine wpAny_bind (wpAny_bind (wpAny_mono h (fun b s₁ h₁ => wpAny_pure ?_) fun _ _ e => e))
  cases b with
  | true => simpa [compTests'] using h₁
  | false => exact hf r s₁ (by simpa using h₁)

/-- the loop of a comprehension, whatever it puts out -/
theorem comp_loop {emit : Sem Fin → Sem Fin} {inv : Nat → View → Dyn → (Str → Option Value) → Prop} {Rr : Result → Shared → Prop} {keep : View → Dyn → Prop}
    (hform : compTurn e d (.ref it) acc env = compBody e d target iter ifs emit (.ref it) acc env) (hq : (Code.compLoop e d (.ref it) acc env).quiet = true) (hden : (model prog w).den (Code.compLoop e d (.ref it) acc env) = (compTurn e d (.ref it) acc env).onRaise (fun x => do noteFrame x env; theTreesLotGoes x)) (hund : A.under (Code.compLoop e d (.ref it) acc env) = A)
    (hR : R it = none) (W : Walks prog w A it fp [it] cnt P SI) (exI : ∀ i h, SI i h → ∃ o, ItObj h it o) (kp : ∀ b ∈ fp, b ≠ it → ∃ p, ∀ B' V', keep B' V' → At B' V' b p)
    (F : St s₀ (R.put it o) Z B V L m s) (st : SI 0 s.heap) (h0 : inv 0 B V m) (hk : ∀ i B' V' m', inv i B' V' m' → B.le B' → keep B' V')
    (turn : ∀ i v R' B' V' m' s', i < cnt → P i v → B.le B' → inv i B' V' m' → St s₀ R' Z B' V' L m' s' →
      wpAny (model prog w) A (assign target env v) (fun _ s₂ => wpAny (model prog w) A (compTests' ifs env) (fun ok s₃ => if ok = true then (∀ (k : Sem Fin) P' E', (∀ s₄, After s₀ R' Z B' inv i L s₄ → wpAny (model prog w) A k P' E' s₄) → wpAny (model prog w) A (emit k) P' E' s₃) else After s₀ R' Z B' inv i L s₃) (fun _ _ => False) s₂) (fun _ _ => False) s')
    (done : ∀ B' V' m' s', B.le B' → inv cnt B' V' m' → St s₀ R Z B' V' L m' s' → Rr (.ok .next) s') :
    codeAny (model prog w) A (.compLoop e d (.ref it) acc env) Rr s := by
  refine codeAny_loop hq (LI s₀ R Z it SI B inv cnt L) (fun k s' hI => ?_) (cnt + 1) ⟨0, o, B, V, m, Nat.zero_le _, rfl, View.le.refl B, h0, F, st⟩
  have key : ∀ (P' : Fin → Shared → Prop) E', (P' = fun fin s' => match fin with | .done f => Rr (.ok f) s' | .again c' => c' = Code.compLoop e d (.ref it) acc env ∧ ∃ m, m < k ∧ LI s₀ R Z it SI B inv cnt L m s') →
      wpAny (model prog w) A (compTurn e d (.ref it) acc env) P' E' s' := by
    rintro P' E' rfl
    rw [hform]
    unfold compBody
    refine wpAny_bind (wpAny_standAt (wpAny_bind ?_))
    refine next_step W hR exI (fun b hb hbi => let ⟨p, hp⟩ := kp b hb hbi; ⟨p, fun i B' V' m' hI hl => hp _ _ (hk i B' V' m' hI hl)⟩) hI (fun i v R' B' V' m' s₁ hi hP hl hI' F' hit back => ?_) fun B' V' m' s₁ hl hI' F' => wpAny_pure (done B' V' m' s₁ hl hI' F')
    obtain ⟨oi, hoi⟩ := hit
    refine wpAny_bind (let_it hoi (wpAny_bind (wpAny_mono (turn i v R' B' V' m' s₁ hi hP hl hI' F') (fun _ s₂ h₂ => wpAny_bind (wpAny_mono h₂ (fun ok s₃ h₃ => ?_) fun _ _ e => e.elim)) fun _ _ e => e.elim)))
    cases ok with
    | true =>
      simp only [if_true] at h₃ ⊢
      exact h₃ _ _ _ fun s₄ h₄ => wpAny_pure ⟨rfl, back _ h₄⟩
    | false =>
      simp only [Bool.false_eq_true, if_false] at h₃ ⊢
      exact wpAny_pure ⟨rfl, back _ h₃⟩
  rw [hund, hden]
  exact wpAny_noted (key _ _ rfl)
end

end
section
section
variable {prog : Program} {w : World} {A : Around} {E : Value → Shared → Prop} {s₀ s s' : Shared} {R R' Z B B' : View} {V V' : Dyn} {L a b l C it c D : Addr} {m m' mg mb : Str → Option Value} {env cenv : Env} {x : Str} {k n cnt cnt' : Nat} {o o' : Obj} {h' : Heap} {tk : Nat} {P P' : Nat → Value → Prop} {SI : Nat → Heap → Prop} {fp : List Addr}
  {elt iter target iter' target' : Expr} {ifs ifs' : List Expr} {scope : Scope} {cl : List (Str × Addr)} {pos : Pos} {e : Expr} {d : Nat} {acc : Value} {i : Nat × Nat} {keep keep' : View → Dyn → Prop}

def LoopOK (prog : Program) (w : World) (A : Around) (s₀ : Shared) (B : View) (V : Dyn) (i : Nat × Nat) (e : Expr) (scope : Scope) (cl : List (Str × Addr)) (env : Env) (cnt : Nat) (P : Nat → Value → Prop) (keep : View → Dyn → Prop) (o₀ : Obj) (FIN : Addr → View → Dyn → Prop) : Prop :=
  ∀ it o SI fp D C R' s', R' it = none → B D = none → Walks prog w A it fp [it] cnt P SI → (∀ i h, SI i h → ∃ o, ItObj h it o) → (∀ b ∈ fp, b ≠ it → ∃ p, ∀ B' V', keep B' V' → At B' V' b p) →
      St s₀ (R'.put it o) B B (V.put i (D, o₀)) C (fun _ => none) s' → SI 0 s'.heap →
      codeAny (model prog w) A (.compLoop e 0 (.ref it) (.ref D) (compEnvC scope cl C env)) (fun r s'' => r = .ok .next ∧ ∃ B' V' m', St s₀ R' B B' V' C m' s'' ∧ FIN D B' V') s'

abbrev ListFin (V : Dyn) (i : Nat × Nat) (Out : View → Nat → List Value → Prop) (cnt : Nat) (D : Addr) (B' : View) (V' : Dyn) : Prop := ∃ zs n, V' = V.put i (D, listO zs n) ∧ Cat (Out B') cnt zs

theorem put_put (V : Dyn) (i p q) : (V.put i p).put i q = V.put i q := by
  funext j; unfold Dyn.put; split <;> rfl

theorem emit_app {vs : List Value} {Pk : Fin → Shared → Prop} {Ek : Value → Shared → Prop} {kk : Sem Fin} {Y : Value → Shared → Prop}
    (h : wpAny (model prog w) A (eval elt env) Y (fun _ _ => False) s)
    (h2 : ∀ y s₄, Y y s₄ → ∃ B'' m'' n, St s₀ R' Z B'' (V.put i (D, listO vs n)) C m'' s₄ ∧ vs.length ≤ sizeLine ∧ ∀ s₅, St s₀ R' Z B'' (V.put i (D, listO (vs ++ [y]) (n + 1))) C m'' s₅ → wpAny (model prog w) A kk Pk Ek s₅) :
    wpAny (model prog w) A (emitL elt (.ref D) env kk) Pk Ek s := by
  refine wpAny_bind (wpAny_bind (wpAny_mono h (fun y s₄ h₄ => ?_) fun _ _ e => e.elim))
  obtain ⟨B'', m'', n, F, hsz, hk⟩ := h2 y s₄ h₄
  refine wpAny_bind (l_append F (put_self _ _ _) hsz fun s₅ F₅ => wpAny_pure (hk _ ?_))
  rw [put_put] at F₅; exact F₅

def Leaf (P : Prop) : Prop := P
theorem Leaf.mk {P : Prop} (h : P) : Leaf P := h
/-- one clause -/
theorem loop1 {Out : View → Nat → List Value → Prop} (Mk : (Str → Option Value) → Prop) (hcnt : cnt ≤ sizeLine) (Cc : Cx w mg mb B)
    (hk : ∀ B' D ys n, B.le B' → keep B' (V.put i (D, listO ys n))) (mono : ∀ B' B'' j zs, B'.le B'' → Out B' j zs → Out B'' j zs) (hM : Mk fun _ => none)
    (turn : ∀ C D j v ys n R' B' m' s', j < cnt → P j v → B.le B' → B D = none → Mk m' → Cx w mg mb B → St s₀ R' B B' (V.put i (D, listO ys n)) C m' s' →
      wpAny (model prog w) A (assign target (compEnvC scope cl C env) v) (fun _ s₂ => wpAny (model prog w) A (compTests' ifs (compEnvC scope cl C env)) (fun ok s₃ => if ok = true then
          wpAny (model prog w) A (eval elt (compEnvC scope cl C env)) (fun y s₄ => Leaf (∃ B'' m'', B'.le B'' ∧ Out B'' j [y] ∧ Mk m'' ∧ St s₀ R' B B'' (V.put i (D, listO ys n)) C m'' s₄)) (fun _ _ => False) s₃
        else Leaf (∃ B'' m'', B'.le B'' ∧ Out B'' j [] ∧ Mk m'' ∧ St s₀ R' B B'' (V.put i (D, listO ys n)) C m'' s₃)) (fun _ _ => False) s₂) (fun _ _ => False) s') :
    LoopOK prog w A s₀ B V i (.ListComp elt [⟨target, iter, ifs, 0⟩] scope pos) scope cl env cnt P keep (listO [] 0) (ListFin V i Out cnt) := by
  intro it o SI fp D C R' s' hR hD W exI kp F st
  refine comp_loop (inv := fun j B' V' m' => ∃ zs n, V' = V.put i (D, listO zs n) ∧ zs.length ≤ j ∧ Mk m' ∧ Cat (Out B') j zs) (turn_L1 ..) rfl rfl rfl hR W exI kp F st ⟨[], 0, rfl, Nat.le_refl _, hM, .zero⟩
    (fun j B' V' m' ⟨zs, n, e, _⟩ hl => e ▸ hk B' D zs n hl) (fun j v R₁ B' V' m' s₁ hj hP hl hI F₁ => ?_) fun B' V' m' s₁ hl hI F₁ => ⟨rfl, B', V', m', F₁, let ⟨zs, n, e, _, _, c⟩ := hI; ⟨zs, n, e, c⟩⟩
  obtain ⟨zs, n, rfl, hlen, hm, hc⟩ := hI
  refine wpAny_mono (turn C D j v zs n R₁ B' m' s₁ hj hP hl hD hm Cc F₁) (fun _ s₂ h₂ => wpAny_mono h₂ (fun ok s₃ h₃ => ?_) fun _ _ e => e) fun _ _ e => e
  cases ok with
  | true =>
    simp only [if_true] at h₃ ⊢
    intro kk Pk Ek hk'
    refine emit_app h₃ fun y s₄ ⟨B'', m'', hl', hO, hm', F₄⟩ => ⟨B'', m'', n, F₄, by omega, fun s₅ F₅ => hk' s₅ ⟨B'', _, m'', hl', ⟨zs ++ [y], n + 1, rfl, by simp; omega, hm', .succ (hc.mono fun j zs h => mono _ _ _ _ hl' h) hO⟩, F₅⟩⟩
  | false =>
    simp only [Bool.false_eq_true, if_false] at h₃ ⊢
    obtain ⟨B'', m'', hl', hO, hm', F₄⟩ := h₃
    exact ⟨B'', _, m'', hl', ⟨zs, n, rfl, by omega, hm', by simpa using Cat.succ (hc.mono fun j zs h => mono _ _ _ _ hl' h) hO⟩, F₄⟩

theorem foldedSet_plain {iter : Expr} {x : Value} (h : ∀ x, foldedSetIterable iter env x = pure x) : foldedSetIterable iter env x = pure x := h x

theorem start_L21 {R : Result → Shared → Prop} {it : Value}
    (h0 : codeAny (model prog w) A (.compLoop (.ListComp elt [⟨target, iter, ifs, 0⟩, ⟨target', iter', ifs', 0⟩] scope pos) 1 it acc env) R s)
    (h : wpAny (model prog w) A (pyIter it) (fun it' s' => codeAny (model prog w) A (.compLoop (.ListComp elt [⟨target, iter, ifs, 0⟩, ⟨target', iter', ifs', 0⟩] scope pos) 1 it' acc env) R s')
      (notedBy (model prog w) A env fun x s' => R (.error x) s') s) :
    codeAny (model prog w) A (.compStart (.ListComp elt [⟨target, iter, ifs, 0⟩, ⟨target', iter', ifs', 0⟩] scope pos) 1 it acc env) R s := by
  refine codeAny_of_tree ?_
  show wpAny _ _ ((compStart (.ListComp elt [⟨target, iter, ifs, 0⟩, ⟨target', iter', ifs', 0⟩] scope pos) 1 it acc env).onRaise (fun x => do noteFrame x env; standAt theWindowsPlace)) _ _ s
  refine wpAny_notedAt ?_
  unfold compStart
  show wpAny _ _ (ask >>= _) _ _ s
  refine wpAny_bind (wpAny_askSetting (wpAny_ite ?_))
  split
  · first
      | exact wpAny_bind (wpAny_pure (wpAny_pure (And.intro rfl h0)))
      | exact wpAny_pure (And.intro rfl h0)
  · first
      | exact wpAny_bind (wpAny_rule (wpAny_bind (wpAny_standAt (wpAny_bind (wpAny_mono h (fun it' s' h' => wpAny_pure (And.intro rfl h')) fun _ _ x => x)))))
      | (refine wpAny_bind (wpAny_rule ?_); show wpAny _ _ (standAt _ >>= _) _ _ s; exact wpAny_bind (wpAny_standAt (wpAny_bind (wpAny_mono h (fun it' s' h' => wpAny_pure (And.intro rfl h')) fun _ _ x => x))))

/-- two clauses -/
theorem loop2 {Out : View → Nat → List Value → Prop} {Out' : View → Nat → Nat → List Value → Prop} (Mk : (Str → Option Value) → Prop) (hcnt : cnt ≤ 4000) (Cc : Cx w mg mb B)
    (hk : ∀ B' D ys n, B.le B' → keep B' (V.put i (D, listO ys n))) (mono : ∀ B' B'' j zs, B'.le B'' → Out B' j zs → Out B'' j zs) (hM : Mk fun _ => none)
    (olen : ∀ B' j zs, Out B' j zs → zs.length ≤ 4000)
    (turn : ∀ C D j v ys n R' B' m' s', j < cnt → P j v → B.le B' → B D = none → Mk m' → Cx w mg mb B → St s₀ R' B B' (V.put i (D, listO ys n)) C m' s' →
      wpAny (model prog w) A (assign target (compEnvC scope cl C env) v) (fun _ s₂ => wpAny (model prog w) A (compTests' ifs (compEnvC scope cl C env)) (fun ok s₃ => if ok = true then
          wpAny (model prog w) A (eval iter' (compEnvC scope cl C env)) (fun x s₄ => Leaf (∃ (B₁ : View) (m₁ : Str → Option Value) (Mk' : (Str → Option Value) → Prop) (cnt' : Nat) (P' : Nat → Value → Prop) (keep' : View → Dyn → Prop), B'.le B₁ ∧ St s₀ R' B B₁ (V.put i (D, listO ys n)) C m₁ s₄ ∧ Mk' m₁ ∧
            Src prog w A B₁ (V.put i (D, listO ys n)) x keep' cnt' P' ∧ cnt' ≤ 4000 ∧ (∀ B' ys n, B₁.le B' → keep' B' (V.put i (D, listO ys n))) ∧
            (∀ B' B'' j' zs, B'.le B'' → Out' B' j j' zs → Out' B'' j j' zs) ∧
            (∀ B' zs, B₁.le B' → Cat (Out' B' j) cnt' zs → Out B' j zs) ∧
            (∀ m', Mk' m' → Mk m') ∧
            ∀ j' v' ys n R'' B₂ m' s', j' < cnt' → P' j' v' → B₁.le B₂ → Mk' m' → St s₀ R'' B B₂ (V.put i (D, listO ys n)) C m' s' →
              wpAny (model prog w) A (assign target' (compEnvC scope cl C env) v') (fun _ s₂ => wpAny (model prog w) A (compTests' ifs' (compEnvC scope cl C env)) (fun ok s₃ => if ok = true then
                  wpAny (model prog w) A (eval elt (compEnvC scope cl C env)) (fun y s₄ => Leaf (∃ B'' m'', B₂.le B'' ∧ Out' B'' j j' [y] ∧ Mk' m'' ∧ St s₀ R'' B B'' (V.put i (D, listO ys n)) C m'' s₄)) (fun _ _ => False) s₃
                else Leaf (∃ B'' m'', B₂.le B'' ∧ Out' B'' j j' [] ∧ Mk' m'' ∧ St s₀ R'' B B'' (V.put i (D, listO ys n)) C m'' s₃)) (fun _ _ => False) s₂) (fun _ _ => False) s')) (fun _ _ => False) s₃
        else Leaf (∃ B'' m'', B'.le B'' ∧ Out B'' j [] ∧ Mk m'' ∧ St s₀ R' B B'' (V.put i (D, listO ys n)) C m'' s₃)) (fun _ _ => False) s₂) (fun _ _ => False) s')
    (hs : ∀ env x, foldedSetIterable iter' env x = pure x := by intro _ _; rfl) :
    LoopOK prog w A s₀ B V i (.ListComp elt [⟨target, iter, ifs, 0⟩, ⟨target', iter', ifs', 0⟩] scope pos) scope cl env cnt P keep (listO [] 0) (ListFin V i Out cnt) := by
  intro it o SI fp D C R' s' hR hD W exI kp F st
  refine comp_loop (inv := fun j B' V' m' => ∃ zs n, V' = V.put i (D, listO zs n) ∧ zs.length ≤ j * 4000 ∧ Mk m' ∧ Cat (Out B') j zs) (turn_L20 ..) rfl rfl rfl hR W exI kp F st ⟨[], 0, rfl, Nat.zero_le _, hM, .zero⟩
    (fun j B' V' m' ⟨zs, n, e, _⟩ hl => e ▸ hk B' D zs n hl) (fun j v R₁ B' V' m' s₁ hj hP hl hI F₁ => ?_) fun B' V' m' s₁ hl hI F₁ => ⟨rfl, B', V', m', F₁, let ⟨zs, n, e, _, _, c⟩ := hI; ⟨zs, n, e, c⟩⟩
  obtain ⟨zs, n, rfl, hlen, hm, hc⟩ := hI
  refine wpAny_mono (turn C D j v zs n R₁ B' m' s₁ hj hP hl hD hm Cc F₁) (fun _ s₂ h₂ => wpAny_mono h₂ (fun ok s₃ h₃ => ?_) fun _ _ e => e) fun _ _ e => e
  cases ok with
  | true =>
    simp only [if_true] at h₃ ⊢
    intro kk Pk Ek hk'
    refine wpAny_bind (wpAny_mono h₃ (fun x s₄ h₄ => wpAny_bind (wpAny_standAt (wpAny_bind (wpAny_of_eq (hs _ x) ?_)))) fun _ _ e => e.elim)
    obtain ⟨B₁, m₁, Mk', cnt', P', keep', hl₁, F₄, hm₁, src, hcnt', hkeep', mono', outer, hMM, turn'⟩ := h₄
    refine wpAny_bind (wpAny_holding (src _ _ _ _ _ _ _ _ F₄ fun it' o' SI' fp' s₅ O => ?_))
    have L1 : codeAny (model prog w) A (.compLoop (.ListComp elt [⟨target, iter, ifs, 0⟩, ⟨target', iter', ifs', 0⟩] scope pos) 1 (.ref it') (.ref D) (compEnvC scope cl C env))
        (fun r s' => match r with | .ok f => wpAny (model prog w) A kk Pk Ek s' | .error e => False) s₅ := by
      refine comp_loop (inv := fun j' B' V' m' => ∃ ws n, V' = V.put i (D, listO (zs ++ ws) n) ∧ ws.length ≤ j' ∧ Mk' m' ∧ Cat (Out' B' j) j' ws) (turn_L21 ..) rfl rfl rfl O.hR O.W O.exI O.kp O.F O.st ⟨[], n, by simp, Nat.le_refl _, hm₁, .zero⟩
        (fun j B' V' m' ⟨zs', n, e, _⟩ hl => e ▸ hkeep' B' _ n hl) (fun j' v' R₂ B₂ V₂ m₂ s₆ hj' hP' hl₂ hI₂ F₂ => ?_) fun B₂ V₂ m₂ s₆ hl₂ hI₂ F₂ => ?_
      · obtain ⟨ws, n', rfl, hlen', hm', hc'⟩ := hI₂
        refine wpAny_mono (turn' j' v' _ n' R₂ B₂ m₂ s₆ hj' hP' hl₂ hm' F₂) (fun _ s₂ h₂ => wpAny_mono h₂ (fun ok s₃ h₃ => ?_) fun _ _ e => e) fun _ _ e => e
        cases ok with
        | true =>
          simp only [if_true] at h₃ ⊢
          intro kk Pk Ek hk'
          refine emit_app h₃ fun y s₄ ⟨B'', m'', hl', hO, hm', F₄⟩ => ⟨B'', m'', n', F₄, ?_, fun s₅ F₅ => hk' s₅ ⟨B'', _, m'', hl', ⟨ws ++ [y], n' + 1, by simp, by simp; omega, hm', .succ (hc'.mono fun j zs h => mono' _ _ _ _ hl' h) hO⟩, F₅⟩⟩
          have : sizeLine = 16777216 := rfl
          rw [List.length_append]
          have : j * 4000 ≤ 4000 * 4000 := Nat.mul_le_mul_right _ (by omega)
          omega
        | false =>
          simp only [Bool.false_eq_true, if_false] at h₃ ⊢
          obtain ⟨B'', m'', hl', hO, hm', F₄⟩ := h₃
          exact ⟨B'', _, m'', hl', ⟨ws, n', rfl, by omega, hm', by simpa using Cat.succ (hc'.mono fun j zs h => mono' _ _ _ _ hl' h) hO⟩, F₄⟩
      · obtain ⟨ws, n', rfl, hlen', hm', hc'⟩ := hI₂
        have hOut := outer B₂ ws hl₂ hc'
        refine hk' s₆ ⟨B₂, _, m₂, hl₁.trans hl₂, ⟨zs ++ ws, n', rfl, ?_, hMM _ hm', .succ (hc.mono fun j zs h => mono _ _ _ _ (hl₁.trans hl₂) h) hOut⟩, F₂⟩
        have := olen _ _ _ hOut
        rw [List.length_append, Nat.succ_mul]; omega
    refine wpAny_bind (wpAny_runOwn ?_)
    have L2 := codeAny_mono (R' := fun r s' => match r with | .ok f => wpAny (model prog w) A kk Pk Ek s' | .error e => cameBackBy (model prog w) A (compEnvC scope cl C env) Ek e s') L1 fun r s' hr => by cases r with | ok f => exact hr | error e => exact hr.elim
    exact start_L21 L2 (O.W.self 0 _ _ _ O.st L2)
  | false =>
    simp only [Bool.false_eq_true, if_false] at h₃ ⊢
    obtain ⟨B'', m'', hl', hO, hm', F₄⟩ := h₃
    exact ⟨B'', _, m'', hl', ⟨zs, n, rfl, by rw [Nat.succ_mul]; omega, hm', by simpa using Cat.succ (hc.mono fun j zs h => mono _ _ _ _ hl' h) hO⟩, F₄⟩
end
section
variable {prog : Program} {w : World} {A : Around} {E : Value → Shared → Prop} {s₀ s s' : Shared} {R R' Z B B' : View} {V V' : Dyn} {L a b l C it c D : Addr} {m m' mg mb : Str → Option Value} {env cenv : Env} {x y : Str} {k n cnt cnt' : Nat} {P P' : Nat → Value → Prop}
  {elt iter target : Expr} {ifs : List Expr} {g : List Comprehension} {scope : Scope} {cl : List (Str × Addr)} {pos py : Pos} {i : Nat × Nat} {keep : View → Dyn → Prop} {Out : View → Nat → List Value → Prop} {xv : Value}
theorem newList_acc : ∀ (Q : Value → Shared → Prop) E s, (∀ D h', D = s.heap.objs.size → h' = s.heap.push (listO [] 0) → Q (.ref D) { s with heap := h' }) → wpAny (model prog w) A (newList []) Q E s :=
  fun Q E s h => wpAny_newObj_type (h _ _ rfl rfl)
theorem lc_none {Q : Value → Shared → Prop} (F : St s₀ R Z B V L m s) (src : Src prog w A B V xv keep cnt P)
    (hloop : LoopOK prog w A s₀ B V i (.ListComp elt (⟨target, iter, ifs, 0⟩ :: g) scope pos) scope cl env cnt P keep (listO [] 0) (ListFin V i Out cnt))
    (fin : ∀ D B' zs n s'', B.le B' → Cat (Out B') cnt zs → St s₀ R Z B' (V.put i (D, listO zs n)) L m s'' → Q (.ref D) s'') (hcell : ∀ y ∈ scope.names, y.2 ≠ .cell := by decide) (hkind : scope.kind = .function := by rfl) :
    CompGo prog w A E (.ListComp elt (⟨target, iter, ifs, 0⟩ :: g) scope pos) scope cl env (newList []) none Q xv s :=
  comp_enter (ListFin V i Out cnt) F src newList_acc rfl (fun h0 h => codeAny_compStart_list h0 h) hloop (fun D B' V' s'' R₁ _ ⟨zs, n, e, hc⟩ hl F'' => by subst e; exact fin D B' zs n s'' hl hc F'') hcell hkind
theorem lc_asg {Q : Value → Shared → Prop} (F : St s₀ R Z B V L m s) (src : Src prog w A B V xv keep cnt P)
    (hloop : LoopOK prog w A s₀ B V i (.ListComp elt (⟨target, iter, ifs, 0⟩ :: g) scope pos) scope cl env cnt P keep (listO [] 0) (ListFin V i Out cnt))
    (fin : ∀ D B' zs n s'', B.le B' → Cat (Out B') cnt zs → St s₀ R Z B' (V.put i (D, listO zs n)) L (fun z => if z = y then some (.ref D) else m z) s'' → Q .none s'') (hcell : ∀ y ∈ scope.names, y.2 ≠ .cell := by decide) (hkind : scope.kind = .function := by rfl)
    (hL : env.locals = L := by rfl) (hke : env.scope.kind = .function := by rfl) (hy : env.kindOf y = some .local := by rfl) :
    CompGo prog w A E (.ListComp elt (⟨target, iter, ifs, 0⟩ :: g) scope pos) scope cl env (newList []) (some (assign (.Name y py) env)) Q xv s :=
  comp_enter (ListFin V i Out cnt) F src newList_acc rfl (fun h0 h => codeAny_compStart_list h0 h) hloop (fun D B' V' s'' R₁ _ ⟨zs, n, e, hc⟩ hl F'' => by
    subst e
    exact wpAny_assign_Name (e_st F'' (fun s₃ F₃ => ⟨_, _, _, F₃, fun s₄ F₄ => fin D B' zs n s₄ hl hc F₄⟩) hL hke hy)) hcell hkind
end

end
local macro_rules | `(tactic| walk_at "eval Name") => `(tactic| k_dflt (first
  | refine x_loc (by assumption) (by dl_step) ?_
  | refine x_glob (by assumption) (by assumption) (by kas_types) ?_
  | refine x_bi (by assumption) (by assumption) (by kba_ints) (by kat_tups) (by decide) ?_))
local macro_rules | `(tactic| walk_at "callWith builtin") => `(tactic| k_dflt (first | refine callWith_builtin1 ?_ | refine callWith_method1 ?_ | refine callWith_method0 ?_))
local macro_rules | `(tactic| walk_at "newTuple") => `(tactic| k_dflt (refine n_tup (by assumption) ?_; intro t' s' hB' F'))
local macro_rules | `(tactic| walk_at "exec Expr") => `(tactic| k_dflt (refine wpAny_Expr_any ?_))
local macro_rules | `(tactic| walk_at "eval Call Attribute") => `(tactic| k_dflt (refine MethodCall_ ?_))
local macro_rules | `(tactic| dl_mem) => `(tactic| first | assumption | exact put_self _ _ _ | (refine (put_other _ _ ?hne).trans ?hh; (case hh => dl_mem); (case hne => decide)))
local macro_rules | `(tactic| dl_there) => `(tactic| first | exact At.ofV (by dl_mem) | exact At.ofB (by assumption))
local macro_rules | `(tactic| k_meth) => `(tactic| with_reducible first | exact PySem.F.slot_list_append | exact PySem.F.slot_list_pop | exact PySem.F.slot_list_extend)
local macro_rules | `(tactic| k_made) => `(tactic| with_reducible first | exact PySem.F.type_list_append | exact PySem.F.type_list_pop | exact PySem.F.type_list_extend)
local macro_rules | `(tactic| k_size) => `(tactic| first | omega | (simp [sizeLine]; omega))
local macro_rules | `(tactic| walk_at "getMethod ref") => `(tactic| k_dflt (refine m_list (by assumption) (by dl_there) (by k_meth) (by k_made) ?_))
local macro_rules | `(tactic| walk_at "call builtin:list.append") => `(tactic| k_dflt (refine l_append (by assumption) (by dl_mem) (by k_size) ?_; intro s' F'))
local macro_rules | `(tactic| walk_at "call builtin:list.pop") => `(tactic| k_dflt (refine l_pop (by assumption) (by dl_mem) (by k_size) ?_; intro s' F'))
local macro_rules | `(tactic| walk_at "call builtin:list.extend") => `(tactic| k_dflt (refine l_extend (by assumption) (by dl_mem) (by dl_there) (by k_size) ?_; intro k' s' F'))
local macro_rules | `(tactic| walk_at "truthy ref") => `(tactic| k_dflt (refine l_truthy (by assumption) (by dl_there) (by k_size) ?_; intro s' F'))
local macro_rules | `(tactic| walk_at "storeName") => `(tactic| k_dflt (first | (refine e_st (by assumption) ?_; intro s' F') | (refine e_stC (by assumption) (by rfl) (by dl_mem) (by rfl) ?_; intro o' s' hd' F')))
local macro_rules | `(tactic| dl_step) => `(tactic| first | rfl | assumption | (refine (if_neg ?hn).trans ?hh; (case hh => dl_step); (case hn => decide)))
local macro_rules | `(tactic| kbo_some) => `(tactic| with_reducible first | exact kp_392 _ | exact kp_385 _ | exact kp_399 _ | exact kp_404 _ | exact kp_411 _ | exact kp_418 _ | exact kp_423 _ | exact kp_430 _ | exact kp_119 _ | exact kp_45 _ | exact kp_108 _ | exact kp_136 _ | exact kp_162 _ | exact kp_245 _ | exact kp_288 _ | exact kp_328 _ | exact kp_369 _)
local macro_rules | `(tactic| walk_at "callWith ref") => `(tactic| k_dflt (refine cw_K (by kbo_some) ?_))
local macro_rules | `(tactic| walk_at "And") => `(tactic| k_dflt (refine And.intro (by first | exact Cx.kin (by assumption) (St.toFz (by assumption)) | exact (At.ofB (V := _) (by assumption)).get (St.toFz (by assumption))) ?_))
section
section
variable {prog : Program} {w : World} {A : Around} {E : Value → Shared → Prop} {s₀ s : Shared} {R Z B : View} {V : Dyn} {L a b l : Addr} {m mg mb : Str → Option Value} {env : Env} {k n : Nat} {i j : Nat × Nat}
theorem put_eq {i : Nat × Nat} {p : Addr × Obj} (h : V i = some p) : V.put i p = V := by
  funext j; unfold Dyn.put; split
  · rename_i q; rw [q, h]
  · rfl
/-- put -/
theorem c_put {α : Type} [BEq α] (f : α → Value) {l : List α} {x : α} {Q : Value → Shared → Prop} (F : St s₀ R Z B V L m s) (Cc : Cx w mg mb Z) (hA : Lv (n + 2) A) (hv : V i = some (a, listO (l.map f) k))
    (he : ∀ y ∈ l, EqT w mg mb B n (f y) (f x) (y == x)) (hsz : l.length ≤ 100000)
    (h : ∀ k' s', St s₀ R Z B (V.put i (a, listO ((if l.any (· == x) then l else l ++ [x]).map f) k')) L m s' → Q .none s') : wpAny (model prog w) A (call (.ref 392) [.ref a, f x]) Q E s := by
  have he' := Eqs.of f (· == x) l he
  refine call_fn (binds := [("row", .ref a), ("one", f x)]) F Cc hA rfl (by kernel_rfl) (BindsTo.of_eq rfl) (locs rfl) (fun R' L' s' F' Cc' back => ?_)
  clear F
  repeat walk1
  refine notin_list F' Cc' (Lv.mono (Lv.deeper hA)) (At.ofV hv) he' fun s₁ F₁ => ?_
  have e : (List.map (fun x_1 => x_1 == x) l).any id = l.any (· == x) := by rw [List.any_map]; rfl
  rw [e]
  clear F'
  repeat walk1
  · rename_i hh
    refine h k _ ?_
    rw [if_pos hh, put_eq hv]
    exact back _ _ _ _ F₁
  · rename_i hh
    clear he'
    have hsz' : (l.map f).length ≤ 100000 := by simpa using hsz
    repeat walk1
    refine h (k + 1) _ ?_
    rw [if_neg (by rw [hh]; exact Bool.false_ne_true), List.map_append]
    exact back _ _ _ _ ‹_›

/-- remove_dups: the first of each -/
def dedup {α : Type} [BEq α] (l : List α) : List α := l.foldl (fun acc x => if acc.any (· == x) then acc else acc ++ [x]) []
theorem dedup_snoc {α : Type} [BEq α] (l : List α) (x : α) : dedup (l ++ [x]) = if (dedup l).any (· == x) then dedup l else dedup l ++ [x] := by
  unfold dedup; rw [List.foldl_append]; rfl
theorem snoc_ind {α : Type} {P : List α → Prop} (h0 : P []) (h1 : ∀ l x, P l → P (l ++ [x])) (l : List α) : P l := by
  rw [← List.reverse_reverse l]
  induction l.reverse with
  | nil => exact h0
  | cons x r ih => rw [List.reverse_cons]; exact h1 _ _ ih
theorem dedup_sub {α : Type} [BEq α] (l : List α) : (∀ y ∈ dedup l, y ∈ l) ∧ (dedup l).length ≤ l.length := by
  refine snoc_ind (P := fun l => (∀ y ∈ dedup l, y ∈ l) ∧ (dedup l).length ≤ l.length) ⟨fun y h => h, Nat.le_refl _⟩ (fun l x ih => ?_) l
  · rw [dedup_snoc]
    split
    · exact ⟨fun y h => List.mem_append_left _ (ih.1 y h), by rw [List.length_append]; have := ih.2; simp; omega⟩
    · refine ⟨fun y h => ?_, by have := ih.2; simp; omega⟩
      rcases List.mem_append.mp h with h | h
      · exact List.mem_append_left _ (ih.1 y h)
      · exact List.mem_append_right _ h
theorem c_dedup {α : Type} [BEq α] (f : α → Value) {l : List α} {Q : Value → Shared → Prop} (i : Nat × Nat) (F : St s₀ R Z B V L m s) (Cc : Cx w mg mb Z) (hA : Lv (n + 2) A) (hv : At (B := B) (V := V) a (listO (l.map f) k)) (hvi : ∀ p, At B (V.put i p) a (listO (l.map f) k))
    (he : ∀ y ∈ l, ∀ x ∈ l, EqT w mg mb B n (f y) (f x) (y == x)) (hsz : l.length ≤ 100000)
    (h : ∀ b k' s', B b = none → St s₀ R Z B (V.put i (b, listO ((dedup l).map f) k')) L m s' → Q (.ref b) s') : wpAny (model prog w) A (call (.ref 385) [.ref a]) Q E s := by
  refine call_fn (binds := [("types", .ref a)]) F Cc hA rfl (by kernel_rfl) (BindsTo.of_eq rfl) (locs rfl) (fun R' L' s' F' Cc' back => ?_)
  clear F
  repeat walk1
  refine n_list i F' fun b s₁ hb F₁ => ?_
  repeat walk1
  refine wpAny_For ?_
  repeat walk1
  rename_i s₂ F₂
  refine for_src (fun j B' V' m' => B' = B ∧ (∃ k', V' = V.put i (b, listO ((dedup (l.take j)).map f) k')) ∧ m' (Str.ofString "new_types") = some (.ref b)) F₂ (Src.list hA.h (hvi _)) ⟨rfl, ⟨0, rfl⟩, rfl⟩ ?_ ?_ ?_
  · rintro j B' V' m' ⟨rfl, ⟨k', rfl⟩, _⟩ _
    exact hvi _
  · rintro j v R₁ B' V' m' s' hj hP hl ⟨rfl, ⟨k', rfl⟩, hm⟩ F₃
    obtain ⟨y, hy, rfl⟩ : ∃ y, l[j]? = some y ∧ f y = v := by simpa using hP
    have hym : y ∈ l := List.mem_of_getElem? hy
    have hsub := dedup_sub (l.take j)
    have he' : Eqs w mg mb B' n (f y) ((dedup (l.take j)).map f) ((dedup (l.take j)).map (· == y)) := Eqs.of f (· == y) _ fun z hz => he z (List.mem_of_mem_take (hsub.1 z hz)) y hym
    have hlen : (dedup (l.take j)).length ≤ 100000 := Nat.le_trans hsub.2 (Nat.le_trans (by simp; omega) hsz)
    have hlen' : ((dedup (l.take j)).map f).length ≤ 100000 := by simpa using hlen
    have htk : l.take (j + 1) = l.take j ++ [y] := by rw [List.take_add_one, hy]; rfl
    clear F₂ F₁ F'
    repeat walk1
    rename_i s₄ F₄
    refine notin_list F₄ Cc' (Lv.mono (Lv.deeper hA)) (At.ofV (put_self _ _ _)) he' fun s₅ F₅ => ?_
    have e : (List.map (fun x_1 => x_1 == y) (dedup (l.take j))).any id = (dedup (l.take j)).any (· == y) := by rw [List.any_map]; rfl
    rw [e]
    clear F₄ F₃
    repeat walk1
    · rename_i hh
      refine BodyEnd.next ⟨_, _, _, hl, ⟨rfl, ⟨k', ?_⟩, ?_⟩, F₅⟩
      · rw [htk, dedup_snoc, if_pos hh]
      · dl_step
    · rename_i hh
      clear he'
      repeat walk1
      rename_i s₆ F₆
      rw [put_put] at F₆
      refine BodyEnd.next ⟨_, _, _, hl, ⟨rfl, ⟨k' + 1, ?_⟩, ?_⟩, F₆⟩
      · rw [htk, dedup_snoc, if_neg (by rw [hh]; exact Bool.false_ne_true), List.map_append]; rfl
      · dl_step
  · rintro B' V' m' s' hl ⟨rfl, ⟨k', rfl⟩, hm⟩ F₃
    clear F₂ F₁ F'
    repeat walk1
    refine h b k' _ hb ?_
    have := back _ _ _ _ F₃
    simpa using this
end

end
section
theorem fh_245 (w : World) : findIn (hd.heap_39 w.params) (.ref 245) (Str.ofString "__hash__") = some (some (.ref 235)) := by kernel_rfl
theorem ff_235 (w : World) : isFn (hd.heap_39 w.params) (.ref 235) = true := by kernel_rfl
def ents (f : Nat → Addr) (vs : List Value) : List DictEntry := vs.mapIdx fun j v => ⟨(j : Int) + 1, .ref (f j), v⟩
def dictD (f : Nat → Addr) (vs : List Value) (ep : Nat) : Obj := { cls := .type "dict", data := .dict (ents f vs).toArray ep }
theorem ents_at (f : Nat → Addr) (vs : List Value) (i : Nat) : (ents f vs)[i]? = vs[i]?.map fun v => ⟨(i : Int) + 1, .ref (f i), v⟩ := by
  unfold ents; rw [List.getElem?_mapIdx]
theorem ents_len (f : Nat → Addr) (vs : List Value) : (ents f vs).length = vs.length := by unfold ents; simp
theorem ents_snoc (f : Nat → Addr) (vs : List Value) (v : Value) : ents f (vs ++ [v]) = ents f vs ++ [⟨(vs.length : Int) + 1, .ref (f vs.length), v⟩] := by
  unfold ents; rw [List.mapIdx_concat]
theorem ents_set (f : Nat → Addr) (vs : List Value) (i : Nat) (v : Value) : (ents f vs).toArray.modify i (fun e => { e with val := v }) = (ents f (vs.set i v)).toArray := by
  apply Array.ext'
  simp only [Array.toList_modify]
  apply List.ext_getElem?
  intro j
  rw [List.getElem?_modify, ents_at, ents_at, List.getElem?_set]
  by_cases h : i = j
  · subst h
    simp only [if_true]
    cases e : vs[i]? with
    | none => rw [List.getElem?_eq_none_iff] at e; simp [Nat.not_lt.mpr e]
    | some u => have := List.getElem?_eq_some_iff.mp e; obtain ⟨h, _⟩ := this; simp [h]
  · simp [h]
theorem places (f : Nat → Addr) (vs : List Value) (k : Nat) : placesWithHash (ents f vs).toArray.size (fun i => (ents f vs).toArray[i]?.map (·.hash)) ((k : Int) + 1) = if k < vs.length then [k] else [] := by
  unfold placesWithHash
  have h1 : ((ents f vs).toArray.size) = vs.length := by simp [ents_len]
  rw [h1]
  have h2 : ∀ i ∈ List.range vs.length, (((ents f vs).toArray[i]?.map (·.hash)) == some ((k : Int) + 1)) = (i == k) := by
    intro i hi
    have hi := List.mem_range.mp hi
    simp only [List.getElem?_toArray, ents_at]
    rw [List.getElem?_eq_getElem hi]
    simp only [Option.map_some]
    by_cases h : i = k
    · subst h; simp
    · have h3 : ((i : Int) + 1 == (k : Int) + 1) = false := by rw [beq_eq_false_iff_ne]; omega
      have h4 : (i == k) = false := by rw [beq_eq_false_iff_ne]; exact h
      show ((i : Int) + 1 == (k : Int) + 1) = (i == k)
      rw [h3, h4]
  rw [List.filter_congr h2]
  clear h1 h2
  generalize vs.length = n
  induction n with
  | zero => simp
  | succ n ih =>
    rw [List.range_succ, List.filter_append, ih]
    by_cases h : n = k
    · subst h; simp
    · by_cases h' : k < n
      · have : ¬ n = k := h
        simp [h', this, Nat.lt_succ_of_lt h']
      · have : ¬ k < n + 1 := by omega
        simp [h', h, this]

section
variable {prog : Program} {w : World} {A : Around} {E : Value → Shared → Prop} {s₀ s : Shared} {R Z B : View} {V : Dyn} {L a b l x d : Addr} {m mg mb : Str → Option Value} {env : Env} {k n ep : Nat} {i : Nat × Nat} {vs : List Value} {f : Nat → Addr} {v : Value}

theorem c_hash {Q : Value → Shared → Prop} (F : St s₀ R Z B V L m s) (Cc : Cx w mg mb Z) (hA : Lv 1 A) (hx : IsId B x k) (hk : k < 5) (h : ∀ t s', St s₀ R Z B V L m s' → Q (.int ((k : Int) + 1) t) s') :
    wpAny (model prog w) A (call (.ref 235) [.ref x]) Q E s := by
  obtain ⟨t1, t2, hx⟩ := hx
  refine call_fn (binds := [("self", .ref x)]) F Cc hA rfl (by kernel_rfl) (BindsTo.of_eq rfl) (locs rfl) (fun R' L' s' F' Cc' back => ?_)
  clear F
  repeat walk1
  · have e : Builtin.bitXor ((k : Int) + 1) (0 * 2 ^ Int.toNat 8) = (k : Int) + 1 := by
      match k, hk with
      | 0, _ => decide
      | 1, _ => decide
      | 2, _ => decide
      | 3, _ => decide
      | 4, _ => decide
    show Q (.int (Builtin.bitXor ((k : Int) + 1) (0 * 2 ^ Int.toNat 8)) _) _
    rw [e]
    rename_i Fl
    exact h _ _ (back _ _ _ _ (Fl.toks (tk := _)))

theorem x_hash {Q : Int → Shared → Prop} (F : St s₀ R Z B V L m s) (Cc : Cx w mg mb Z) (hA : Lv 1 A) (hx : IsId B x k) (hk : k < 5) (h : ∀ s', St s₀ R Z B V L m s' → Q ((k : Int) + 1) s') :
    wpAny (model prog w) A (pyHash (.ref x)) Q E s := by
  have e1 : (decide (-(2 : Int) ^ 63 ≤ (k : Int) + 1) && decide ((k : Int) + 1 < 2 ^ 63)) = true := by
    rw [Bool.and_eq_true, decide_eq_true_eq, decide_eq_true_eq]; omega
  have e2 : ¬ (((k : Int) + 1 == -1) = true) := by rw [beq_iff_eq]; omega
  obtain ⟨t1, t2, ix⟩ := id hx
  obtain ⟨dx, es, nx, I', _⟩ := (Inst.any (V := V) ix).at F.toFz
  have X := Cc.kin F.toFz
  show wpAny _ _ (pyHashByItsType (.ref x)) Q E s
  unfold pyHashByItsType
  refine wpAny_bind (wpAny_cRoomFor hA.units ?_)
  have sp : ∀ {Q : Option Value → Shared → Prop}, Q (some (.ref 235)) s → wpAny (model prog w) A (specialOf (.ref x) (Str.ofString "__hash__")) Q E s := fun h => by
    unfold specialOf
    exact wpAny_bind (I'.type.here ((looks_findIn X (fh_245 w)).here h))
  refine wpAny_bind (sp ?_)
  show wpAny _ _ (if (some (Value.ref 235) == some Value.none) = true then _ else _) Q E s
  rw [if_neg (by decide)]
  refine wpAny_bind (sp ?_)
  refine wpAny_bind (m := callSpecialIfBoundUnlessNone? (.ref x) (Str.ofString "__hash__") _) ?_
  simp only [callSpecialIfBoundUnlessNone?, bindSpecialIfBound?]
  refine wpAny_holding (wpAny_bind (wpAny_bind (sp ?_)))
  refine wpAny_bind (wpAny_askSetting (wpAny_ite ?_))
  split
  · refine wpAny_bind ((bind_fn X _ (beq_iff_eq.mp (ff_235 w))).here (wpAny_pure ?_))
    show wpAny _ _ (if (Value.ref 235 == Value.none) = true then _ else _) _ _ _
    rw [if_neg (by decide)]
    refine wpAny_bind (c_hash F Cc hA hx hk fun t s' F' => wpAny_pure ?_)
    show wpAny _ _ (if (decide (-(2 : Int) ^ 63 ≤ (k : Int) + 1) && decide ((k : Int) + 1 < 2 ^ 63)) = true then _ else _) Q E _
    rw [if_pos e1]
    refine wpAny_pure ?_
    rw [if_neg e2]
    exact h _ F'
  · refine wpAny_tryCatch (wpAny_bind ((bind_fn X _ (beq_iff_eq.mp (ff_235 w))).here (wpAny_pure ?_)))
    show wpAny _ _ (if (Value.ref 235 == Value.none) = true then _ else _) _ _ _
    rw [if_neg (by decide)]
    refine wpAny_bind (c_hash F Cc hA hx hk fun t s' F' => wpAny_pure ?_)
    show wpAny _ _ (if (decide (-(2 : Int) ^ 63 ≤ (k : Int) + 1) && decide ((k : Int) + 1 < 2 ^ 63)) = true then _ else _) Q E _
    rw [if_pos e1]
    refine wpAny_pure ?_
    rw [if_neg e2]
    exact h _ F'

theorem eqb_self {x : Addr} {Q : Bool → Shared → Prop} (h : Q true s) : wpAny (model prog w) A (eqBool (.ref x) (.ref x)) Q E s := by
  unfold eqBool
  refine wpAny_holding ?_
  show wpAny _ _ (if (Value.ref x == Value.ref x) = true then _ else _) Q E s
  rw [if_pos (by simp)]
  exact wpAny_bind (wpAny_rule (wpAny_pure h))
theorem d_find {Q : Option Nat → Shared → Prop} (F : St s₀ R Z B V L m s) (hv : At B V d (dictD f vs ep)) (hf : ∀ j, j < vs.length → f j = f k → j = k) (h : Q (if k < vs.length then some k else none) s) :
    wpAny (model prog w) A (dictFind d (.ref (f k)) ((k : Int) + 1)) Q E s := by
  have ho := hv.get F.toFz
  have hd : (dictD f vs ep).data = .dict (ents f vs).toArray ep := rfl
  unfold dictFind
  refine wpAny_holding (wpAny_bind (wpAny_dictEntries ho hd ?_))
  dsimp only
  rw [if_neg (show ¬ ((Value.ref (f k) :: _).all carriedByValue) = true by simp [carriedByValue])]
  rw [if_neg (show ¬ ((ents f vs).toArray.any fun e => e.key == Value.ref (f k) && e.hash != (k : Int) + 1) = true by
    rw [← Array.any_toList, List.any_eq_true]
    rintro ⟨e, hin, hc⟩
    obtain ⟨j, hj⟩ := List.mem_iff_getElem?.mp hin
    simp only at hj
    rw [ents_at] at hj
    cases hvj : vs[j]? with
    | none => rw [hvj] at hj; cases hj
    | some u =>
      rw [hvj] at hj
      cases hj
      simp only [Bool.and_eq_true, beq_iff_eq, bne_iff_ne, ne_eq, Value.ref.injEq] at hc
      exact hc.2 (by rw [hf j (List.getElem?_eq_some_iff.mp hvj).1 hc.1]))]
  rw [places]
  by_cases hk : k < vs.length
  · rw [if_pos hk] at h ⊢
    have he : (ents f vs).toArray[k]? = some ⟨(k : Int) + 1, .ref (f k), vs[k]⟩ := by
      rw [List.getElem?_toArray, ents_at, List.getElem?_eq_getElem hk]; rfl
    have hst : ([k].filterMap fun i => (ents f vs).toArray[i]?.map (·.key)) = [Value.ref (f k)] := by
      simp only [List.filterMap_cons, List.filterMap_nil, he, Option.map_some]
    rw [hst, if_pos (by simp)]
    refine wpAny_bind (wpAny_pure ?_)
    simp only [Bool.false_and, Bool.false_eq_true, if_false, List.forIn_cons, List.forIn_nil, he]
    refine wpAny_bind (wpAny_bind ?_)
    rw [if_pos (by simp)]
    refine wpAny_bind (wpAny_dictEpoch ho hd (wpAny_bind (eqb_self (wpAny_bind (wpAny_dictEpoch ho hd ?_)))))
    rw [if_neg (by simp)]
    simp only [if_true, Option.isSome_none, Bool.false_eq_true, if_false]
    refine wpAny_bind (wpAny_rule ?_)
    rw [if_pos (by simp)]
    exact wpAny_pure (wpAny_pure (wpAny_pure h))
  · rw [if_neg hk] at h ⊢
    have hst : (([] : List Nat).filterMap fun i => (ents f vs).toArray[i]?.map (·.key)) = [] := rfl
    rw [hst, if_neg (show ¬ ((([] : List Value) == [Value.ref (f k)]) = true) from by simp)]
    refine wpAny_bind (m := tableMayTell (.ref (f k)) []) ?_
    unfold tableMayTell
    rw [if_pos (by rfl)]
    refine wpAny_pure ?_
    simp only [Bool.false_and, Bool.false_eq_true, if_false, List.forIn_nil]
    exact wpAny_bind (wpAny_pure (wpAny_pure h))
end

end
section
theorem mapDict_modify (es : Array DictEntry) (g : Array DictEntry → Array DictEntry) (ep : Nat) : Obj.mapDict g { cls := .type "dict", data := .dict es ep } = { cls := .type "dict", data := .dict (g es) ep } := rfl
section
variable {prog : Program} {w : World} {A : Around} {E : Value → Shared → Prop} {s₀ s : Shared} {R Z B : View} {V : Dyn} {L a b l x d : Addr} {m mg mb : Str → Option Value} {env : Env} {k n ep : Nat} {i : Nat × Nat} {vs : List Value} {f : Nat → Addr} {v : Value}

/-- a dict by ids -/
structure DictAt (B : View) (V : Dyn) (d : Addr) (f : Nat → Addr) (vs : List Value) (ep : Nat) : Prop where
  at_ : At B V d (dictD f vs ep)
  ids : ∀ j, j < vs.length → IsId B (f j) j
  small : vs.length ≤ 5

theorem DictAt.inj (D : DictAt B V d f vs ep) (hx : IsId B (f k) k) : ∀ j, j < vs.length → f j = f k → j = k := fun j hj e => by
  have := D.ids j hj; rw [e] at this; exact this.inj hx
theorem d_get {Q : Option Value → Shared → Prop} (F : St s₀ R Z B V L m s) (Cc : Cx w mg mb Z) (hA : Lv 1 A) (hd : DictAt B V d f vs ep) (hx : IsId B (f k) k) (hk : k < 5) (h : ∀ s', St s₀ R Z B V L m s' → Q vs[k]? s') :
    wpAny (model prog w) A (dictGet d (.ref (f k))) Q E s := by
  unfold dictGet
  refine wpAny_holding (wpAny_bind (x_hash F Cc hA hx hk fun s₁ F₁ => wpAny_bind (d_find F₁ hd.at_ (hd.inj hx) ?_)))
  by_cases hlt : k < vs.length
  · rw [if_pos hlt]
    refine wpAny_bind (wpAny_dictEntries (hd.at_.get F₁.toFz) (es := (ents f vs).toArray) (ep := ep) rfl (wpAny_pure ?_))
    rw [List.getElem?_toArray, ents_at, List.getElem?_eq_getElem hlt]
    have := h _ F₁
    rw [List.getElem?_eq_getElem hlt] at this
    exact this
  · rw [if_neg hlt]
    have := h _ F₁
    rw [List.getElem?_eq_none (by omega)] at this
    exact wpAny_pure this
theorem d_item {Q : Value → Shared → Prop} (F : St s₀ R Z B V L m s) (Cc : Cx w mg mb Z) (hA : Lv 2 A) (hd : DictAt B V d f vs ep) (hx : IsId B (f k) k) (hk : vs[k]? = some v) (h : ∀ s', St s₀ R Z B V L m s' → Q v s') :
    wpAny (model prog w) A (getItem (.ref d) (.ref (f k))) Q E s := by
  have hT : s.TypeIs (.ref d) "dict" := ⟨_, hd.at_.get F.toFz, rfl⟩
  have hlt := (List.getElem?_eq_some_iff.mp hk).1
  unfold getItem
  refine wpAny_holding (wpAny_bind (wpAny_sequenceKey hT (by decide) ?_))
  refine wpAny_bind (wpAny_callSpecial?_slot (name := Str.ofString "__getitem__") hT slot_dict_getitem
    (wpAny_call_entry slot_dict_getitem hT entry_dict_getitem ?_ (args_dict_getitem _ _)))
  show wpAny _ _ (dictGet d (.ref (f k)) >>= _) _ _ s
  refine wpAny_bind (d_get F Cc (Lv.in1 hA) hd hx (Nat.lt_of_lt_of_le hlt hd.small) fun s₁ F₁ => ?_)
  rw [hk]
  exact wpAny_pure ⟨v, rfl, wpAny_pure (h _ F₁)⟩
theorem d_contains {Q : Bool → Shared → Prop} (F : St s₀ R Z B V L m s) (Cc : Cx w mg mb Z) (hA : Lv 2 A) (hd : DictAt B V d f vs ep) (hx : IsId B (f k) k) (hlt : k < vs.length) (h : ∀ s', St s₀ R Z B V L m s' → Q true s') :
    wpAny (model prog w) A (contains (.ref d) (.ref (f k))) Q E s := by
  have hT : s.TypeIs (.ref d) "dict" := ⟨_, hd.at_.get F.toFz, rfl⟩
  unfold contains
  refine wpAny_holding ?_
  refine wpAny_bind (wpAny_specialOf hT slot_dict_contains.lookup ?_)
  show wpAny _ _ (if (some (Value.builtin "dict.__contains__") == some Value.none) = true then _ else _) _ E s
  rw [if_neg (by rw [beq_builtin_none]; exact Bool.false_ne_true)]
  refine wpAny_bind (wpAny_callSpecialUnlessNone?_slot (name := Str.ofString "__contains__") hT slot_dict_contains
    (wpAny_call_entry slot_dict_contains hT entry_dict_contains ?_ (args_dict_contains _ _)))
  show wpAny _ _ (dictGet d (.ref (f k)) >>= _) _ _ s
  refine wpAny_bind (d_get F Cc (Lv.in1 hA) hd hx (Nat.lt_of_lt_of_le hlt hd.small) fun s₁ F₁ => ?_)
  have h := h _ F₁
  rw [List.getElem?_eq_getElem hlt]
  show wpAny _ _ (ret (.bool true)) _ _ _
  exact wpAny_pure ⟨_, rfl, wpAny_truthy_bool h⟩
theorem d_notin {Q : Value → Shared → Prop} (F : St s₀ R Z B V L m s) (Cc : Cx w mg mb Z) (hA : Lv 2 A) (hd : DictAt B V d f vs ep) (hx : IsId B (f k) k) (hlt : k < vs.length) (h : ∀ s', St s₀ R Z B V L m s' → Q (.bool false) s') :
    wpAny (model prog w) A (compareOp .NotIn (.ref (f k)) (.ref d)) Q E s := by
  show wpAny _ _ (contains (.ref d) (.ref (f k)) >>= fun b => pure (Value.bool (!b)) : Sem Value) _ _ _
  exact wpAny_bind (d_contains F Cc hA hd hx hlt fun s' F' => wpAny_pure (h s' F'))
/-- what a store makes of the values -/
def putAt (vs : List Value) (k : Nat) (v : Value) : List Value := if k < vs.length then vs.set k v else vs ++ [v]
theorem d_set {Q : Unit → Shared → Prop} (F : St s₀ R Z B V L m s) (Cc : Cx w mg mb Z) (hA : Lv 1 A) (hv : V i = some (d, dictD f vs ep)) (hid : ∀ j, j < vs.length → IsId B (f j) j) (hs : vs.length ≤ 5) (hx : IsId B (f k) k) (hk : k < 5) (hkl : k ≤ vs.length)
    (h : ∀ ep' s', St s₀ R Z B (V.put i (d, dictD f (putAt vs k v) ep')) L m s' → Q () s') : wpAny (model prog w) A (dictSet d (.ref (f k)) v) Q E s := by
  unfold dictSet
  have inj : ∀ j, j < vs.length → f j = f k → j = k := fun j hj e => by
    have := hid j hj; rw [e] at this; exact this.inj hx
  refine wpAny_holding (wpAny_bind (x_hash F Cc hA hx hk fun s₁ F₁ => ?_))
  unfold dictSetHashed
  refine wpAny_holding (wpAny_bind (d_find F₁ (At.ofV hv) inj ?_))
  have ho := (F₁.v _ _ _ hv).1
  by_cases hlt : k < vs.length
  · rw [if_pos hlt]
    unfold putAt at h
    rw [if_pos hlt] at h
    refine wpAny_bind (wpAny_rule (wpAny_bind (wpAny_updateDict ho (es := (ents f vs).toArray) (ep := ep) rfl ?_ (by simp))))
    refine wpAny_point (h ep _ (F₁.updV hv (Heap.SameBut.update ..) ?_))
    rw [Heap.get?_update_self _ ho rfl]
    show some _ = some _
    unfold dictD
    rw [mapDict_modify, ents_set]
  · rw [if_neg hlt]
    unfold putAt at h
    rw [if_neg hlt] at h
    have : k = vs.length := by omega
    subst this
    refine wpAny_bind (wpAny_rule (wpAny_updateDictKeys ho (es := (ents f vs).toArray) (ep := ep) rfl ?_ (by simp [ents_len, sizeLine]; omega)))
    refine h (ep + 1) _ (F₁.updV hv (Heap.SameBut.update ..) ?_)
    rw [Heap.get?_update_self _ ho rfl]
    show some _ = some _
    unfold dictD
    rw [ents_snoc]
    simp [Obj.mapDictKeys]
/-- d[k] = v -/
theorem d_store {Q : Unit → Shared → Prop} (F : St s₀ R Z B V L m s) (Cc : Cx w mg mb Z) (hA : Lv 2 A) (hv : V i = some (d, dictD f vs ep)) (hid : ∀ j, j < vs.length → IsId B (f j) j) (hs : vs.length ≤ 5) (hx : IsId B (f k) k) (hk : k < 5) (hkl : k ≤ vs.length)
    (h : ∀ ep' s', St s₀ R Z B (V.put i (d, dictD f (putAt vs k v) ep')) L m s' → Q () s') : wpAny (model prog w) A (setItem (.ref d) (.ref (f k)) v) Q E s := by
  have ho := (F.v _ _ _ hv).1
  have hT : s.TypeIs (.ref d) "dict" := ⟨_, ho, rfl⟩
  unfold setItem
  refine wpAny_holding (wpAny_bind (wpAny_sequenceKey hT (by decide) ?_))
  refine wpAny_bind (wpAny_callSpecial?_slot (name := Str.ofString "__setitem__") hT slot_dict_setitem
    (wpAny_call_entry slot_dict_setitem hT entry_dict_setitem ?_ (args_dict_setitem _ _ _)))
  show wpAny _ _ (Builtin.Dict.notOrdered "__setitem__" ⟨[.ref d, .ref (f k), v], []⟩ >>= _) _ _ s
  refine wpAny_bind (wpAny_notOrdered_dict hT ?_)
  show wpAny _ _ (dictSet d (.ref (f k)) v >>= _) _ _ s
  exact wpAny_bind (d_set F Cc (Lv.in1 hA) hv hid hs hx hk hkl fun ep' s' F' => wpAny_pure ⟨.none, rfl, wpAny_pure (h ep' s' F')⟩)

def emitD (kx vx : Expr) (d : Addr) (env : Env) (k : Sem Fin) : Sem Fin :=
  (do
    let kv ← eval kx env
    let vv ← holding [kv] (eval vx env)
    standAt { kx.pos with endLine := vx.pos.endLine, endCol := vx.pos.endCol }
    holding [kv, vv] (dictSet d kv vv) : Sem Unit) >>= fun _ => k
theorem turn_D1 (kx vx target iter : Expr) (ifs : List Expr) (scope : Scope) (pos : Pos) (it : Value) (d : Addr) (env : Env) : compTurn (.DictComp kx vx [⟨target, iter, ifs, 0⟩] scope pos) 0 it (.ref d) env = compBody (.DictComp kx vx [⟨target, iter, ifs, 0⟩] scope pos) 0 target iter ifs (emitD kx vx d env) it (.ref d) env := by rfl

/-- {tv: [] for tv in tvars}: the lists lie at the roles (c, j) -/
def rowsV (V : Dyn) (c : Nat) (rows : List (Addr × Obj)) : Dyn := fun i => if i.1 = c then (if i.2 < rows.length then rows[i.2]? else V i) else V i
theorem rowsV_snoc (V : Dyn) (c : Nat) (rows : List (Addr × Obj)) (p : Addr × Obj) : (rowsV V c rows).put (c, rows.length) p = rowsV V c (rows ++ [p]) := by
  funext ⟨x, y⟩
  unfold rowsV Dyn.put
  simp only [Prod.mk.injEq, List.length_append, List.length_singleton]
  by_cases h1 : x = c
  · by_cases h2 : y = rows.length
    · simp [h1, h2]
    · by_cases h3 : y < rows.length
      · simp [h1, h2, h3, Nat.lt_succ_of_lt h3, List.getElem?_append_left h3]
      · have : ¬ y < rows.length + 1 := by omega
        simp [h1, h2, h3, this]
  · simp [h1]
end

end
section
theorem put_comm (V : Dyn) {i j : Nat × Nat} (h : i ≠ j) (p q) : (V.put i p).put j q = (V.put j q).put i p := by
  funext x; unfold Dyn.put
  by_cases h1 : x = i <;> by_cases h2 : x = j
  · exact absurd (h1 ▸ h2) h
  · simp [h1, h]
  · simp [h2, Ne.symm h]
  · simp [h1, h2]
section
variable {prog : Program} {w : World} {A : Around} {E : Value → Shared → Prop} {s₀ s : Shared} {R Z B : View} {V : Dyn} {L a b l x d : Addr} {m mg mb : Str → Option Value} {env : Env} {k n ep cnt : Nat} {i : Nat × Nat} {vs : List Value} {f : Nat → Addr} {v : Value}
  {iter kx vx : Expr} {target : Expr} {ifs : List Expr} {scope : Scope} {cl : List (Str × Addr)} {pos : Pos} {keep : View → Dyn → Prop} {P : Nat → Value → Prop} {xv : Value}
def RowsFin (B : View) (V : Dyn) (c : Nat) (f : Nat → Addr) (n : Nat) (D : Addr) (B' : View) (V' : Dyn) : Prop :=
  B' = B ∧ ∃ (rows : List Addr) (ep : Nat), rows.length = n ∧ V' = (rowsV V c (rows.map fun a => (a, listO [] 0))).put (c, 100) (D, dictD f (rows.map .ref) ep)

theorem loopD {x : Str} {px px' pl : Pos} (c : Nat) (f : Nat → Addr) (hcnt : cnt ≤ 5) (Cc : Cx w mg mb B) (hA : Lv 2 A) (hf : ∀ j, j < cnt → IsId B (f j) j)
    (hk : ∀ V' : Dyn, (∀ j, j.1 ≠ c → V' j = V j) → keep B V') (hP : ∀ j v, P j v → v = .ref (f j)) (hx : scope.names.lookup x = some .local) (hkind : scope.kind = .function) (hxd : (x == ("__debug__" : Str)) = false) :
    LoopOK prog w A s₀ B V (c, 100) (.DictComp (.Name x px') (.List [] pl) [⟨.Name x px, iter, [], 0⟩] scope pos) scope cl env cnt P keep (dictD f [] 0) (RowsFin B V c f cnt) := by
  intro it o SI fp D C R' s' hR hD W exI kp F st
  refine comp_loop (inv := fun j B' V' m' => B' = B ∧ ∃ (rows : List Addr) (ep : Nat), rows.length = j ∧ V' = (rowsV V c (rows.map fun a => (a, listO [] 0))).put (c, 100) (D, dictD f (rows.map .ref) ep)) (turn_D1 ..) rfl rfl rfl hR W exI kp F st
    ⟨rfl, [], 0, rfl, by
      congr 1
      funext ⟨p, q⟩; unfold rowsV; simp⟩ ?_ ?_ ?_
  · rintro j B' V' m' ⟨rfl, rows, ep, hr, rfl⟩ hl
    refine hk _ fun j hj => ?_
    rw [put_other _ _ (fun h => hj (by rw [h]))]
    unfold rowsV; rw [if_neg hj]
  · rintro j v R₁ B' V' m' s₁ hj hPv hl ⟨rfl, rows, ep, hr, rfl⟩ F₁
    cases hP j v hPv
    have hL : (compEnvC scope cl C env).locals = C := rfl
    have hke : (compEnvC scope cl C env).scope.kind = .function := hkind
    have hkx : (compEnvC scope cl C env).kindOf x = some .local := lookup_relabel_local hx
    refine wpAny_assign_Name (e_st F₁ (fun s₂ F₂ => ts_nil ?_) hL hke hkx)
    simp only [if_true]
    intro kk Pk Ek hkk
    refine wpAny_bind (wpAny_bind (x_loc F₂ (if_pos rfl) ?_ hL hke hkx hxd))
    refine wpAny_bind (wpAny_holding ?_)
    refine List_ (sp_nil (n_list (c, rows.length) F₂ (fun l s₃ hl' F₃ => ?_)))
    refine wpAny_bind (wpAny_standAt (wpAny_holding ?_))
    rw [put_comm _ (by simp; omega)] at F₃
    have e : (c, rows.length) = (c, (rows.map fun a => ((a, listO [] 0) : Addr × Obj)).length) := by simp
    rw [e, rowsV_snoc] at F₃
    have hr' : rows.length ≤ 5 := by omega
    have e2 : f j = f (rows.map Value.ref).length := by rw [List.length_map, hr]
    have Ccz := Cc
    rw [e2]
    refine d_set (i := (c, 100)) (f := f) (vs := rows.map .ref) F₃ Cc hA.mono (put_self _ _ _) (fun q hq => hf q (by simp at hq; omega)) (by simpa using hr') (by rw [List.length_map, hr]; exact hf j hj) (by simp; omega) (Nat.le_refl _) fun ep' s₄ F₄ => ?_
    rw [put_put] at F₄
    refine hkk s₄ ⟨B', _, _, hl, ⟨rfl, rows ++ [l], ep', by simp [hr], ?_⟩, F₄⟩
    unfold putAt
    simp
  · rintro B' V' m' s₁ hl ⟨rfl, rows, ep, hr, rfl⟩ F₁
    exact ⟨rfl, _, _, m', F₁, rfl, rows, ep, hr, rfl⟩

theorem x_AssignDictComp {g : List Comprehension} {y : Str} {py spos : Pos} {Q : Flow → Shared → Prop}
    (h : wpAny (model prog w) A (eval iter env) (fun x s₁ => CompGo prog w A E (.DictComp kx vx (⟨target, iter, ifs, 0⟩ :: g) scope pos) scope cl env newDict (some (assign (.Name y py) env)) (fun _ s' => Q .next s') x s₁) E s)
    (hsw : swapsWith (.DictComp kx vx (⟨target, iter, ifs, 0⟩ :: g) scope pos) (some (.Name y py)) spos.line env = pure true := by rfl)
    (hclos : closureFor scope env = pure cl := by rfl) (hkind : scope.kind = .function := by rfl) (hnames : ∀ y ∈ scope.names, y.2 = .local → scope.names.lookup y.1 = some .local := by decide)
    (hs : ∀ x, foldedSetIterable iter env x = pure x := by intro _; rfl) :
    wpAny (model prog w) A (exec (.Assign [.Name y py] (.DictComp kx vx (⟨target, iter, ifs, 0⟩ :: g) scope pos) spos) env) Q E s := by
  rw [exec_Assign_Name_used _ _ _ _ hsw]
  refine wpAny_bind (wpAny_standAt (wpAny_bind ?_))
  show wpAny _ A (do let _ ← comprehension (.DictComp kx vx (⟨target, iter, ifs, 0⟩ :: g) scope pos) scope env _ newDict false (eval iter env) (some (assign (.Name y py) env))) _ _ s
  exact wpAny_bind (wpAny_mono (wpAny_comprehension_free (use := some (assign (.Name y py) env)) (Q := fun _ s' => Q .next s') rfl hs hclos hkind hnames h) (fun _ s' hq => wpAny_pure (wpAny_pure hq)) fun _ _ e => e)
theorem newDict_acc (f : Nat → Addr) : ∀ (Q : Value → Shared → Prop) E s, (∀ D h', D = s.heap.objs.size → h' = s.heap.push (dictD f [] 0) → Q (.ref D) { s with heap := h' }) → wpAny (model prog w) A newDict Q E s :=
  fun Q E s h => by
    simp only [newDict, newObj]
    exact wpAny_bind (wpAny_alloc (wpAny_pure (h _ _ rfl rfl)))
theorem dc_asg {x y : Str} {px px' pl py : Pos} {Q : Value → Shared → Prop} (c : Nat) (f : Nat → Addr) (F : St s₀ R Z B V L m s) (Cc : Cx w mg mb Z) (src : Src prog w A B V xv keep cnt P) (hcnt : cnt ≤ 5) (hA : Lv 2 A) (hf : ∀ j, j < cnt → IsId B (f j) j)
    (hk : ∀ V' : Dyn, (∀ j, j.1 ≠ c → V' j = V j) → keep B V') (hP : ∀ j v, P j v → v = .ref (f j))
    (fin : ∀ (D : Addr) (rows : List Addr) (ep : Nat) (s'' : Shared), rows.length = cnt → St s₀ R Z B ((rowsV V c (rows.map fun a => (a, listO [] 0))).put (c, 100) (D, dictD f (rows.map .ref) ep)) L (fun z => if z = y then some (.ref D) else m z) s'' → Q .none s'')
    (hx : scope.names.lookup x = some .local := by rfl) (hxd : (x == ("__debug__" : Str)) = false := by decide) (hcell : ∀ y ∈ scope.names, y.2 ≠ .cell := by decide) (hkind : scope.kind = .function := by rfl)
    (hL : env.locals = L := by rfl) (hke : env.scope.kind = .function := by rfl) (hy : env.kindOf y = some .local := by rfl) :
    CompGo prog w A E (.DictComp (.Name x px') (.List [] pl) [⟨.Name x px, iter, [], 0⟩] scope pos) scope cl env newDict (some (assign (.Name y py) env)) Q xv s :=
  comp_enter (RowsFin B V c f cnt) F src (newDict_acc f) rfl (fun h0 h => codeAny_compStart_dict h0 h) (loopD c f hcnt (Cc.le F.z) hA hf hk hP hx hkind hxd) (fun D B' V' s'' R₁ _ ⟨hB, rows, ep, hr, e⟩ hl F'' => by
    subst e; subst hB
    exact wpAny_assign_Name (e_st F'' (fun s₃ F₃ => ⟨_, _, _, F₃, fun s₄ F₄ => fin D rows ep s₄ hr F₄⟩) hL hke hy)) hcell hkind
end

end
section
section
variable {prog : Program} {w : World} {A : Around} {E : Value → Shared → Prop} {s₀ s : Shared} {R Z B : View} {V : Dyn} {L a b l x : Addr} {m mg mb : Str → Option Value} {env : Env} {k n : Nat} {i j : Nat × Nat} {D : Dom} {c : Con}
theorem c_linear {Q : Value → Shared → Prop} (F : St s₀ R Z B V L m s) (Cc : Cx w mg mb Z) (hD : DomOK D B) (hA : Lv 2 A) (hx : IsCon D B x c)
    (h : ∀ t s', B t = none → St s₀ R Z (B.put t (tupO [.bool c.2.2.1, if c.2.2.1 then .ref (D.id c.2.2.2) else .none])) V L m s' → Q (.ref t) s') : wpAny (model prog w) A (call (.ref 399) [.ref x]) Q E s := by
  obtain ⟨ok, t, i⟩ := hx
  obtain ⟨c1, c2, v, q⟩ := c
  cases v with
  | true =>
    have iv := hD.var q (ok.2.1 rfl)
    obtain ⟨nm, up, vs, va, iv⟩ := iv
    replace i : SInst B x 45 [(Str.ofString "type_var", .ref (D.id c1)), (Str.ofString "op", .int (if c2 then 1 else 0) t), (Str.ofString "target", .ref (D.var q)), (Str.ofString "origin_type_var", .ref (D.var c1))] := i
    refine call_fn (binds := [("c", .ref x)]) F Cc hA rfl (by kernel_rfl) (BindsTo.of_eq rfl) (locs rfl) (fun R' L' s' F' Cc' back => ?_)
    clear F
    repeat walk1
    exact h _ _ ‹_› (back _ _ _ _ ‹_›)
  | false =>
    have iv := hD.cls q (ok.2.2 rfl)
    replace i : SInst B x 45 [(Str.ofString "type_var", .ref (D.id c1)), (Str.ofString "op", .int (if c2 then 1 else 0) t), (Str.ofString "target", .ref (D.cls q)), (Str.ofString "origin_type_var", .ref (D.var c1))] := i
    refine call_fn (binds := [("c", .ref x)]) F Cc hA rfl (by kernel_rfl) (BindsTo.of_eq rfl) (locs rfl) (fun R' L' s' F' Cc' back => ?_)
    clear F
    repeat walk1
    exact h _ _ ‹_› (back _ _ _ _ ‹_›)
end

end
section
def conEq : BEq (Addr × Con) := ⟨fun p q => p.2 == q.2⟩
def aval {β : Type} (p : Addr × β) : Value := .ref p.1
abbrev Ask := Nat × Nat × Nat
def AskIs (B : View) (a : Addr) (q : Ask) : Prop := ∃ t1 t2 t3, B a = some (tupO [.int (q.1 : Int) t1, .str (clsName q.2.1) t2, .str (clsName q.2.2) t3])
theorem AskIs.le {B B' : View} {a : Addr} {q : Ask} (h : AskIs B a q) (hl : B.le B') : AskIs B' a q := let ⟨a, b, c, e⟩ := h; ⟨a, b, c, hl _ _ e⟩
structure AskSt (B : View) (V : Dyn) (al : Addr) (asks : List (Addr × Ask)) : Prop where
  v : ∃ k, V (9, 0) = some (al, listO (asks.map aval) k)
  is : ∀ p ∈ asks, AskIs B p.1 p.2
structure RemSt (D : Dom) (B : View) (V : Dyn) (ra : Addr) (rem : List (Addr × Con)) : Prop where
  v : ∃ k, V (4, 0) = some (ra, listO (rem.map aval) k)
  is : ∀ p ∈ rem, IsCon D B p.1 p.2
theorem AskSt.le {B B' : View} {V V' : Dyn} {al asks} (h : AskSt B V al asks) (hl : B.le B') (hV : V' (9, 0) = V (9, 0)) : AskSt B' V' al asks := ⟨hV ▸ h.v, fun p hp => (h.is p hp).le hl⟩
theorem RemSt.le {D : Dom} {B B' : View} {V V' : Dyn} {ra rem} (h : RemSt D B V ra rem) (hl : B.le B') (hV : V' (4, 0) = V (4, 0)) : RemSt D B' V' ra rem := ⟨hV ▸ h.v, fun p hp => (h.is p hp).le hl⟩
/-- the follow-up -/
def fup : Con := (0, false, false, 2)
/-- what may have turned: the roles told -/
def Only (l : List Nat) (V V' : Dyn) : Prop := ∀ i, i.1 ∉ l → V' i = V i
theorem Only.refl (l V) : Only l V V := fun _ _ => rfl
theorem Only.put {l : List Nat} {V V' : Dyn} (h : Only l V V') {i : Nat × Nat} (hi : i.1 ∈ l) (p) : Only l V (V'.put i p) := fun j hj => by
  rw [put_other _ _ (fun e => hj (by rw [e]; exact hi))]; exact h j hj
theorem Only.trans {l : List Nat} {V V' V'' : Dyn} (h : Only l V V') (h' : Only l V' V'') : Only l V V'' := fun i hi => (h' i hi).trans (h i hi)
theorem Only.mono {l l' : List Nat} {V V' : Dyn} (h : Only l V V') (hl : ∀ x ∈ l, x ∈ l') : Only l' V V' := fun i hi => h i fun h => hi (hl _ h)

/-- the contract of the law's infer -/
def InferOK (w : World) (mg mb : Str → Option Value) (D : Dom) (fo : Bool) (fi : Addr) (al : Addr) (n : Nat) (B₀ : View) : Prop :=
  (∃ o fd, B₀ fi = some o ∧ o.data = .func fd) ∧
  ∀ (prog : Program) (A : Around) (E : Value → Shared → Prop) (s₀ s : Shared) (R Z B : View) (V : Dyn) (L : Addr) (m : Str → Option Value) (Q : Value → Shared → Prop) (asks : List (Addr × Ask)) (lt ut : Nat) (sd : Bool) (t : Tok),
    B₀.le B → Cx w mg mb Z → Lv n A → St s₀ R Z B V L m s → AskSt B V al asks → asks.length ≤ 50000 → lt < 3 → ut < 3 →
    (∀ l x s' B' V', B.le B' → St s₀ R Z B' V' L m s' → Only [8, 9] V V' → (∃ a, AskSt B' V' al (asks ++ [(a, (if sd then 1 else 0), lt, ut)])) → (fo = true ∧ asks = [] → IsCon D B' x fup) →
      V' (8, 0) = some (l, listO (if fo = true ∧ asks = [] then [.ref x] else []) 0) → Q (.ref l) s') →
    wpAny (model prog w) A (call (.ref fi) [.ref (D.cls (if sd then ut else lt)), .ref (D.cls (if sd then lt else ut)), .int (if sd then 1 else 0) t]) Q E s

section
variable {prog : Program} {w : World} {A : Around} {E : Value → Shared → Prop} {s₀ s : Shared} {R Z B : View} {V : Dyn} {L a b l x ra al fi : Addr} {m mg mb : Str → Option Value} {env : Env} {k n : Nat} {i j : Nat × Nat} {D : Dom} {c : Con} {rem : List (Addr × Con)} {asks : List (Addr × Ask)} {fo : Bool} {lt ut : Nat} {pos : Pos}

theorem cw_F {f : Addr} {o : Obj} {fd : FuncData} {first : List Value} {e : Expr} {rest : List Expr} {Q : Value → Shared → Prop} (hd : o.data = .func fd)
    (h : wpAny (model prog w) A (spliced (backTo pos (starEach (e :: rest) env))) (fun vs s₁ => s₁.heap.get? f = some o ∧ wpAny (model prog w) A (call (.ref f) (first ++ vs)) Q E s₁) E s)
    (he : starEach (e :: rest) env = (false, eval e env) :: starEach rest env := by rfl) (hplain : (backTo pos (starEach rest env)).any (·.1) = false := by rfl) :
    wpAny (model prog w) A (callWith pos (.ref f) first (backTo pos (starEach (e :: rest) env)) []) Q E s := by
  rw [he] at h ⊢
  refine callWith_of (P := fun h => h.get? f = some o) (by show ((false || (backTo pos (starEach rest env)).any (·.1)) || false) = false; rw [hplain]; rfl) (fun h hp => ⟨.frame, .inl rfl, ?_⟩) (evalArgs_plain h)
  refine (Looks.ld (part := none) hp).andThen ?_
  rw [hd]
  exact .now
end

end
section
def putc (l : List Con) (c : Con) : List Con := if l.any (· == c) then l else l ++ [c]
def secRem (fo : Bool) (l : List Con) (e : Bool) : List Con := if fo = true ∧ e = true then putc l fup else l
section
variable {prog : Program} {w : World} {A : Around} {E : Value → Shared → Prop} {s₀ s : Shared} {R Z B : View} {V : Dyn} {L a b l x ra al fi : Addr} {m mg mb : Str → Option Value} {env : Env} {k n : Nat} {i j : Nat × Nat} {D : Dom} {c : Con} {rem : List (Addr × Con)} {asks : List (Addr × Ask)} {fo : Bool} {lt ut : Nat} {pos : Pos}
theorem c_putc {Q : Value → Shared → Prop} {p : Addr × Con} (F : St s₀ R Z B V L m s) (Cc : Cx w mg mb Z) (hD : DomOK D B) (hA : Lv 6 A) (rS : RemSt D B V ra rem) (hp : IsCon D B p.1 p.2) (hsz : rem.length ≤ 100000)
    (h : ∀ V' rem' s', St s₀ R Z B V' L m s' → Only [4] V V' → RemSt D B V' ra rem' → rem'.map (·.2) = putc (rem.map (·.2)) p.2 → Q .none s') : wpAny (model prog w) A (call (.ref 392) [.ref ra, .ref p.1]) Q E s := by
  obtain ⟨⟨k, hv⟩, his⟩ := rS
  refine @c_put prog w A E s₀ s R Z B V L ra m mg mb k 4 (4, 0) (Addr × Con) conEq aval rem p Q F Cc hA hv (fun y hy => EqT.con hD (his y hy) hp) hsz fun k' s' F' => ?_
  refine h _ _ s' F' ((Only.refl _ _).put (by simp) _) ⟨⟨k', put_self _ _ _⟩, fun y hy => ?_⟩ ?_
  · split at hy
    · exact his y hy
    · rcases List.mem_append.mp hy with hy | hy
      · exact his y hy
      · simp at hy; subst hy; exact hp
  · have e : rem.any (fun y => conEq.beq y p) = (rem.map (·.2)).any (· == p.2) := by rw [List.any_map]; rfl
    unfold putc
    rw [← e]
    show List.map _ (if (rem.any fun y => conEq.beq y p) = true then rem else rem ++ [p]) = _
    split <;> simp

set_option maxHeartbeats 2000000 in
theorem c_addsec {Q : Value → Shared → Prop} (F : St s₀ R Z B V L m s) (Cc : Cx w mg mb Z) (hD : DomOK D B) (hI : InferOK w mg mb D fo fi al n B) (hA : Lv (n + 8) A) (rS : RemSt D B V ra rem) (aS : AskSt B V al asks) (hl1 : rem.length ≤ 50000) (hl2 : asks.length ≤ 40000) (hlt : lt < 3) (hut : ut < 3)
    (h : ∀ B' V' s' rem' asks', B.le B' → St s₀ R Z B' V' L m s' → Only [4, 8, 9] V V' → RemSt D B' V' ra rem' → AskSt B' V' al asks' → rem'.map (·.2) = secRem fo (rem.map (·.2)) asks.isEmpty → asks'.map (·.2) = asks.map (·.2) ++ [(0, lt, ut), (1, lt, ut)] → Q .none s') :
    wpAny (model prog w) A (call (.ref 411) [.ref ra, .ref (D.cls lt), .ref (D.cls ut), .ref fi]) Q E s := by
  obtain ⟨⟨oi, fd, hoi, hfd⟩, hI⟩ := hI
  have ic := hD.cls ut hut
  refine call_fn (binds := [("cs", .ref ra), ("lower", .ref (D.cls lt)), ("upper", .ref (D.cls ut)), ("infer_constraints", .ref fi)]) F Cc hA rfl (by kernel_rfl) (BindsTo.of_eq rfl) (locs rfl) (fun R' L' s' F' Cc' back => ?_)
  clear F
  repeat walk1
  refine wpAny_For ?_
  repeat walk1
  refine cw_F hfd ?_
  repeat walk1
  rename_i s₁ F₁
  refine hI _ _ _ _ _ _ _ _ _ _ _ _ asks lt ut false 196 (View.le.refl _) Cc' (Lv.mono (Lv.deeper hA)) F₁ aS (by omega) hlt hut fun l x s₂ B₂ V₂ hl₂ F₂ on₂ ask₂ hx hl => ?_
  obtain ⟨a₁, aS₂⟩ := ask₂
  have rS₂ : RemSt D B₂ V₂ ra rem := rS.le hl₂ (on₂ _ (by simp))
  have hD₂ := hD.le hl₂
  have e0 : asks.isEmpty = true ↔ asks = [] := List.isEmpty_iff
  clear F' F₁
  refine for_src (fun j B' V' m' => B' = B₂ ∧ Only [4] V₂ V' ∧ (∃ rem', RemSt D B₂ V' ra rem' ∧ rem'.map (·.2) = if j = 0 then rem.map (·.2) else putc (rem.map (·.2)) fup) ∧
      m' (Str.ofString "cs") = some (.ref ra) ∧ m' (Str.ofString "lower") = some (.ref (D.cls lt)) ∧ m' (Str.ofString "upper") = some (.ref (D.cls ut)) ∧ m' (Str.ofString "infer_constraints") = some (.ref fi)) F₂ (Src.list hA.h (At.ofV hl)) ⟨rfl, Only.refl _ _, ⟨rem, rS₂, rfl⟩, rfl, rfl, rfl, rfl⟩ ?_ ?_ ?_
  · rintro j B' V' m' ⟨rfl, on, _⟩ _
    exact At.ofV ((on _ (by simp)).trans hl)
  · rintro j v R₁ B' V' m' s' hj hP hl' ⟨rfl, on, ⟨rem', rS', er'⟩, hm1, hm2, hm3, hm4⟩ F₃
    have hfo : fo = true ∧ asks = [] := by
      by_cases q : fo = true ∧ asks = []
      · exact q
      · rw [if_neg q] at hP; simp at hP
    rw [if_pos hfo] at hP hj
    have hj0 : j = 0 := by simp at hj; exact hj
    subst hj0
    have hv : v = .ref x := by simpa using hP.symm
    subst hv
    have er' : rem'.map (·.2) = rem.map (·.2) := er'
    have hlen : rem'.length = rem.length := by have := congrArg List.length er'; simpa using this
    clear F₂
    repeat walk1
    rename_i s₄ F₄
    refine c_putc (p := (x, fup)) F₄ Cc' hD₂ (Lv.mono (Lv.deeper hA)) rS' (hx hfo) (by omega) fun V₅ rem₅ s₅ F₅ on₅ rS₅ er₅ => ?_
    repeat walk1
    refine BodyEnd.next ⟨_, _, _, hl', ⟨rfl, on.trans on₅, ⟨rem₅, rS₅, ?_⟩, ?_, ?_, ?_, ?_⟩, F₅⟩
    · rw [er₅, er']; rfl
    all_goals dl_step
  · rintro B₃ V₃ m₃ s₃ hl₃ ⟨rfl, on₃, ⟨rem₃, rS₃, er₃⟩, hm1, hm2, hm3, hm4⟩ F₃
    have er₃' : rem₃.map (·.2) = secRem fo (rem.map (·.2)) asks.isEmpty := by
      unfold secRem
      by_cases q : fo = true ∧ asks = []
      · have e : (if fo = true ∧ asks = [] then [Value.ref x] else []).length = 1 := by rw [if_pos q]; rfl
        rw [e] at er₃
        rw [if_pos ⟨q.1, e0.mpr q.2⟩]; exact er₃
      · have e : (if fo = true ∧ asks = [] then [Value.ref x] else []).length = 0 := by rw [if_neg q]; rfl
        rw [e] at er₃
        rw [if_neg (fun z => q ⟨z.1, e0.mp z.2⟩)]; exact er₃
    clear F₂
    have hoi₃ := hl₂ _ _ hoi
    repeat walk1
    refine wpAny_For ?_
    repeat walk1
    refine cw_F hfd ?_
    repeat walk1
    have aS₃ := aS₂.le (V' := V₃) (View.le.refl _) (on₃ _ (by simp))
    refine hI _ _ _ _ _ _ _ _ _ _ _ _ _ lt ut true 198 hl₂ Cc' (Lv.mono (Lv.deeper hA)) F₃ aS₃ (by simp; omega) hlt hut fun l₅ x₅ s₅ B₅ V₅ hl₅ F₅ on₅ ask₅ hx₅ hl₅' => ?_
    obtain ⟨a₅, aS₅⟩ := ask₅
    rw [if_neg (by simp)] at hl₅'
    refine for_src (fun j B' V' m' => B' = B₅ ∧ V' = V₅) F₅ (Src.list hA.h (At.ofV hl₅')) ⟨rfl, rfl⟩ ?_ ?_ ?_
    · rintro j B' V' m' ⟨rfl, rfl⟩ _
      exact At.ofV hl₅'
    · rintro j v R₁ B' V' m' s' hj
      exact absurd hj (Nat.not_lt_zero _)
    · rintro B₆ V₆ m₆ s₆ hl₆ ⟨rfl, rfl⟩ F₆
      repeat walk1
      refine h B₆ V₆ _ rem₃ _ (hl₂.trans hl₅) (back _ _ _ _ F₆) ?_ (rS₃.le hl₅ (on₅ _ (by simp))) aS₅ er₃' (by simp)
      exact ((on₂.mono (by simp)).trans (on₃.mono (by simp))).trans (on₅.mono (by simp))
end

end
section
section
variable {prog : Program} {w : World} {A : Around} {E : Value → Shared → Prop} {s₀ s s' : Shared} {R R' Z B : View} {V : Dyn} {L a b l c L' : Addr} {m m' cm mg mb : Str → Option Value} {env : Env} {k n : Nat} {i : Nat × Nat} {o : Obj}
theorem St.addV (F : St s₀ R Z B V L m s) (ho : s.heap.get? c = some o) (hR : R c = none) (hB : B c = none) (hV : ∀ i p, V i ≠ some (c, p)) (hL : c ≠ L) : St s₀ R Z B (V.put i (c, o)) L m s := by
  refine ⟨⟨F.r, F.b, fun j a p e => ?_, fun j j' b p p' e e' => ?_, F.same, F.z⟩, F.ns, F.lR, F.lB, fun j p e => ?_⟩
  · unfold Dyn.put at e
    split at e
    · cases e; exact ⟨ho, hR, hB⟩
    · exact F.v j a p e
  · unfold Dyn.put at e e'
    split at e <;> split at e'
    · rename_i h1 h2; rw [h1, h2]
    · cases e; exact absurd e' (hV j' p')
    · cases e'; exact absurd e (hV j p)
    · exact F.inj j j' b p p' e e'
  · unfold Dyn.put at e
    split at e
    · cases e; exact hL rfl
    · exact F.lV j p e

def CellRows (cs : List (Str × Addr)) (cm : Str → Option Value) (rows : List (Addr × Obj)) : Prop :=
  rows.length = cs.length ∧ ∀ (j : Nat) (n : Str) (c : Addr), cs[j]? = some (n, c) → ∃ o : Obj, rows[j]? = some (c, o) ∧ o.data = .cell (cm n)

theorem rowsV_nil (V : Dyn) (c : Nat) : rowsV V c [] = V := by funext ⟨p, q⟩; unfold rowsV; simp
theorem rowsV_some {V : Dyn} {c : Nat} {rows : List (Addr × Obj)} {i p} (h : rowsV V c rows i = some p) : p ∈ rows ∨ V i = some p := by
  unfold rowsV at h
  split at h
  · split at h
    · exact .inl (List.mem_of_getElem? h)
    · exact .inr h
  · exact .inr h

theorem St.enterC {cs : List (Str × Addr)} (cr : Nat) (F : St s₀ R Z B V L m s) (hn : s.heap.get? L' = none) (hge : s.heap.objs.size ≤ L') (x : InCallC s L' m' cs cm s') (hnd : (cs.map (·.1)).Nodup) :
    ∃ R' rows, CellRows cs cm rows ∧ St s₀ R' B B (rowsV V cr rows) L' m' s' ∧ ∀ B' V' m'' s'', St s₀ R' B B' V' L' m'' s'' → St s₀ R Z B' V' L m s'' := by
  obtain ⟨h', tk, e, kp⟩ := x.done
  subst e
  obtain ⟨F', back⟩ := F.enter (tk := tk) hn x.toInCall.ns kp
  have fresh : ∀ c, L' < c → s.heap.get? c = none := fun c hc => get_size_none _ (Nat.le_of_lt (Nat.lt_of_le_of_lt hge hc))
  have key : ∀ (done rest : List (Str × Addr)), cs = done ++ rest → ∀ rows, CellRows done cm rows → (∀ p ∈ rows, ∃ q ∈ done, q.2 = p.1) → St s₀ (restOf s.heap B V) B B (rowsV V cr rows) L' m' { s with heap := h', toks := tk } →
      ∃ rows, CellRows cs cm rows ∧ St s₀ (restOf s.heap B V) B B (rowsV V cr rows) L' m' { s with heap := h', toks := tk } := by
    intro done rest
    induction rest generalizing done with
    | nil => intro e rows hr _ F; rw [List.append_nil] at e; subst e; exact ⟨rows, hr, F⟩
    | cons nc rest ih =>
      obtain ⟨nm, c⟩ := nc
      intro e rows hr hin F₁
      have hmem : (nm, c) ∈ cs := by rw [e]; simp
      have hgt := x.above nm c hmem
      have hlk : cs.lookup nm = some c := by
        have : ∀ (l : List (Str × Addr)), (l.map (·.1)).Nodup → (nm, c) ∈ l → l.lookup nm = some c := by
          intro l
          induction l with
          | nil => intro _ h; cases h
          | cons q l ih =>
            obtain ⟨qn, qc⟩ := q
            intro hn hm
            rw [List.map_cons, List.nodup_cons] at hn
            rw [List.lookup_cons]
            rcases List.mem_cons.mp hm with h | h
            · cases h; simp
            · have : nm ≠ qn := fun e => hn.1 (by rw [← e]; exact List.mem_map_of_mem (f := (·.1)) h)
              have : (nm == qn) = false := by simpa using this
              rw [this]; exact ih hn.2 h
        exact this cs hnd hmem
      obtain ⟨o, ho, hd⟩ := x.cell nm c hlk
      have hsn := fresh c hgt
      have hRc : restOf s.heap B V c = none := by
        cases q : restOf s.heap B V c with
        | none => rfl
        | some p => have := (restOf_some q).1; rw [hsn] at this; cases this
      have hBc : B c = none := by
        cases q : B c with
        | none => rfl
        | some p => have := (F.b c p q).1; rw [hsn] at this; cases this
      have hVc : ∀ i p, rowsV V cr rows i ≠ some (c, p) := fun i p q => by
        rcases rowsV_some q with h | h
        · obtain ⟨q', hq', e'⟩ := hin _ h
          have hp := x.apart
          rw [e, List.pairwise_append] at hp
          exact hp.2.2 q' hq' (nm, c) (by simp) e'
        · have := (F.v i c p h).1; rw [hsn] at this; cases this
      have F₂ := F₁.addV (i := (cr, rows.length)) ho hRc hBc hVc (fun h => by rw [h] at hgt; exact Nat.lt_irrefl _ hgt)
      rw [rowsV_snoc] at F₂
      refine ih (done ++ [(nm, c)]) (by rw [e]; simp) (rows ++ [(c, o)]) ⟨by simp [hr.1], fun j n' c' hj => ?_⟩ (fun p hp => ?_) F₂
      · by_cases h : j < done.length
        · rw [List.getElem?_append_left h] at hj
          obtain ⟨o', h1, h2⟩ := hr.2 j n' c' hj
          exact ⟨o', by rw [List.getElem?_append_left (by rw [hr.1]; exact h)]; exact h1, h2⟩
        · have hj' : j = done.length := by
            have := (List.getElem?_eq_some_iff.mp hj).1; simp at this; omega
          subst hj'
          simp at hj
          obtain ⟨rfl, rfl⟩ := hj
          exact ⟨o, by rw [← hr.1]; simp, hd⟩
      · rcases List.mem_append.mp hp with h | h
        · obtain ⟨q, hq, e'⟩ := hin p h; exact ⟨q, List.mem_append_left _ hq, e'⟩
        · simp at h; subst h; exact ⟨(nm, c), by simp, rfl⟩
  obtain ⟨rows, h1, h2⟩ := key [] cs rfl [] ⟨rfl, fun j n c h => by simp at h⟩ (fun p h => by cases h) (by rw [rowsV_nil]; exact F')
  exact ⟨_, rows, h1, h2, back⟩

theorem call_fnC {f : Addr} {oc : Value} {od : Option Addr} {osl : Array (Option Value)} {nm qual : Str} {params : Arguments} {body : List Stmt} {scope : Scope} {dV kV doc pm cdv ct : Value} {an : Option Addr} {args : List Value} {binds : List (Str × Value)} {Q : Value → Shared → Prop}
    (cr : Nat) (F : St s₀ R Z B V L m s) (Cc : Cx w mg mb Z) (hA : Lv n A)
    (ho : List.lookup f (hd.heap_39 w.params) = some ⟨oc, od, .func (fnOf nm qual params body scope dV kV doc pm an cdv ct), osl⟩)
    (hcd : codeIn (hd.heap_39 w.params) cdv qual = true)
    (hbind : BindsTo s (fnOf nm qual params body scope dV kV doc pm an cdv ct) ⟨args, []⟩ binds)
    (hkind : ∀ n, ∀ x ∈ binds, scope.names.lookup x.1 = some .local ∨ (scope.names.lookup x.1 = some .cell ∧ ((cellsFrom n scope.names []).lookup x.1).isSome = true))
    (hnd : ((cellsFrom 0 scope.names []).map (·.1)).Nodup)
    (h : ∀ R' L' s' rows, CellRows (cellsFrom (L' + 1) scope.names []) (bindC (envOfC qual scope L' f cdv).kindOf binds fun _ => none) rows → St s₀ R' B B (rowsV V cr rows) L' (bindL (envOfC qual scope L' f cdv).kindOf binds fun _ => none) s' → Cx w mg mb B → (∀ B' V' m' s'', St s₀ R' B B' V' L' m' s'' → St s₀ R Z B' V' L m s'') →
      (∀ (j : Nat) (n : Str) (c : Addr), (cellsFrom (L' + 1) scope.names [])[j]? = some (n, c) → (envOfC qual scope L' f cdv).cells.lookup n = some c) →
      wpAny (model prog w) (A.deeper (envOfC qual scope L' f cdv)) (execs body (envOfC qual scope L' f cdv)) (fun fl s'' => Q (retOf fl) s'') (fun _ _ => False) s')
    (hco : scope.isCoroutine = false := by rfl) (hgen : scope.isGenerator = false := by rfl) (hk : scope.kind = .function := by rfl) :
    wpAny (model prog w) A (call (.ref f) args) Q E s := by
  refine wpAny_call ?_
  have X := Cc.kin F.toFz
  refine codeAny_call_function (fd := fnOf nm qual params body scope dV kV doc pm an cdv ct) (body := body) hA.room (X _ _ ho) rfl hco hgen rfl (codeRec_of X hcd) (hbind _ _ _ _ ?_)
  refine wpAny_newFunctionEnv_cells hk (hkind _) fun env' he s' x => ?_
  subst he
  obtain ⟨R', rows, hr, F', back⟩ := F.enterC cr (get_fresh s.heap) (Nat.le_refl _) x (cellsFrom_names scope.names 0 (s.heap.objs.size + 1) [] [] rfl ▸ hnd)
  refine ⟨(Cc.nolim F.toFz).keeps x.toInCall.keep, codeAny_func ?_⟩
  refine wpAny_mono (h R' _ s' rows hr F' (Cc.le F.z) back fun j n c hj => lookup_of_mem_nodup (cellsFrom_names scope.names 0 (s.heap.objs.size + 1) [] [] rfl ▸ hnd) (List.mem_of_getElem? hj)) (fun fl s'' q => ?_) fun _ _ e => e.elim
  cases fl <;> exact q
end

end
section
abbrev Pr := Nat × Nat
def GIs (D : Dom) (B : View) (G : List (Addr × Pr)) : Prop := ∀ p ∈ G, p.2.1 < D.n ∧ p.2.2 < D.n ∧ B p.1 = some (tupO [.ref (D.id p.2.1), .ref (D.id p.2.2)])
theorem GIs.le {D : Dom} {B B' : View} {G} (h : GIs D B G) (hl : B.le B') : GIs D B' G := fun p hp => ⟨(h p hp).1, (h p hp).2.1, hl _ _ (h p hp).2.2⟩
def Gm (G : List (Addr × Pr)) (a b : Nat) : Bool := G.any fun p => p.2 == (a, b)
def clsV (D : Dom) (j : Nat) : Value := .ref (D.cls j)
def idV (D : Dom) (j : Nat) : Value := .ref (D.id j)
def idsV (D : Dom) : List Value := (List.range D.n).map (idV D)
structure RowsAt (D : Dom) (V : Dyn) (c : Nat) (d : Addr) (f : Nat → List Nat) : Prop where
  ex : ∃ (as : List Addr) (ep : Nat), as.length = D.n ∧ V (c, 100) = some (d, dictD D.id (as.map .ref) ep) ∧ ∀ j a, as[j]? = some a → ∃ k, V (c, j) = some (a, listO ((f j).map (clsV D)) k)
  lt : ∀ j, j < D.n → ∀ q ∈ f j, q < 3
  nd : ∀ j, j < D.n → (f j).Nodup
theorem RowsAt.only {D : Dom} {V V' : Dyn} {c d f} {l : List Nat} (h : RowsAt D V c d f) (o : Only l V V') (hc : c ∉ l) : RowsAt D V' c d f := by
  obtain ⟨as, ep, h1, h2, h3⟩ := h.ex
  exact ⟨⟨as, ep, h1, (o _ hc).trans h2, fun j a hj => let ⟨k, e⟩ := h3 j a hj; ⟨k, (o _ hc).trans e⟩⟩, h.lt, h.nd⟩
theorem three {l : List Nat} (h1 : ∀ q ∈ l, q < 3) (h2 : l.Nodup) : l.length ≤ 3 := by
  have : ∀ (n : Nat) (l : List Nat), (∀ q ∈ l, q < n) → l.Nodup → l.length ≤ n := by
    intro n
    induction n with
    | zero => intro l h1 _; cases l with
      | nil => exact Nat.le_refl _
      | cons a l => exact absurd (h1 a List.mem_cons_self) (Nat.not_lt_zero _)
    | succ n ih =>
      intro l h1 h2
      have h3 := ih (l.erase n) (fun q hq => by
        have h5 := (List.Nodup.mem_erase_iff h2).mp hq
        have h6 := h1 q h5.2
        have h7 := h5.1
        omega) (h2.erase n)
      rw [List.length_erase] at h3
      split at h3 <;> omega
  exact this 3 l h1 h2
theorem RowsAt.len {D : Dom} {V : Dyn} {c d f j} (h : RowsAt D V c d f) (hj : j < D.n) : (f j).length ≤ 3 := three (h.lt j hj) (h.nd j hj)

section
variable {prog : Program} {w : World} {A : Around} {E : Value → Shared → Prop} {s₀ s : Shared} {R Z B : View} {V : Dyn} {L a b l t g d tl x : Addr} {m mg mb : Str → Option Value} {env : Env} {k n p q j : Nat} {i : Nat × Nat} {D : Dom} {G : List (Addr × Pr)} {f : Nat → List Nat} {c : Nat}

theorem EqT.pair (hD : DomOK D B) {p q p' q' : Nat} {t t' : Addr} (hp : p < D.n) (hq : q < D.n) (hp' : p' < D.n) (hq' : q' < D.n) (h : B t = some (tupO [.ref (D.id p), .ref (D.id q)])) (h' : B t' = some (tupO [.ref (D.id p'), .ref (D.id q')])) :
    EqT w mg mb B 2 (.ref t) (.ref t') ((p, q) == (p', q')) := by
  have := eq_tup (w := w) (mg := mg) (mb := mb) (n := 1) (eqs := [(.ref (D.id p), .ref (D.id p'), p == p'), (.ref (D.id q), .ref (D.id q'), q == q')]) h h'
    (by intro e he; rcases List.mem_cons.mp he with rfl | he
        · exact EqT.id (hD.id p hp) (hD.id p' hp')
        · rcases List.mem_cons.mp he with rfl | he
          · exact EqT.id (hD.id q hq) (hD.id q' hq')
          · cases he)
    (by intro e he; rcases List.mem_cons.mp he with rfl | he
        · intro e; simp only [Value.ref.injEq] at e; simpa using hD.id_inj hp hp' e
        · rcases List.mem_cons.mp he with rfl | he
          · intro e; simp only [Value.ref.injEq] at e; simpa using hD.id_inj hq hq' e
          · cases he)
  have e : ((p, q) == (p', q')) = [(Value.ref (D.id p), Value.ref (D.id p'), p == p'), (.ref (D.id q), .ref (D.id q'), q == q')].all (·.2.2) := by
    simp only [List.all_cons, List.all_nil, Bool.and_true]; rfl
  rw [e]
  exact this
/-- (a, b) in graph -/
theorem in_graph {Q : Value → Shared → Prop} (F : St s₀ R Z B V L m s) (Cc : Cx w mg mb Z) (hA : Lv 3 A) (hD : DomOK D B) (hg : At B V g (listO (G.map aval) k)) (hG : GIs D B G) (hp : p < D.n) (hq : q < D.n) (ht : B t = some (tupO [.ref (D.id p), .ref (D.id q)]))
    (h : ∀ s', St s₀ R Z B V L m s' → Q (.bool (Gm G p q)) s') : wpAny (model prog w) A (compareOp .In (.ref t) (.ref g)) Q E s := by
  have he : Eqs w mg mb B 2 (.ref t) (G.map aval) (G.map fun y => y.2 == (p, q)) := Eqs.of aval (fun y => y.2 == (p, q)) G fun y hy => EqT.pair hD (hG y hy).1 (hG y hy).2.1 hp hq (hG y hy).2.2 ht
  refine in_list F Cc hA hg he fun s' F' => ?_
  have e : (G.map fun y => y.2 == (p, q)).any id = Gm G p q := by rw [List.any_map]; rfl
  rw [e]; exact h s' F'
theorem notin_graph {Q : Value → Shared → Prop} (F : St s₀ R Z B V L m s) (Cc : Cx w mg mb Z) (hA : Lv 3 A) (hD : DomOK D B) (hg : At B V g (listO (G.map aval) k)) (hG : GIs D B G) (hp : p < D.n) (hq : q < D.n) (ht : B t = some (tupO [.ref (D.id p), .ref (D.id q)]))
    (h : ∀ s', St s₀ R Z B V L m s' → Q (.bool (!Gm G p q)) s') : wpAny (model prog w) A (compareOp .NotIn (.ref t) (.ref g)) Q E s := by
  have he : Eqs w mg mb B 2 (.ref t) (G.map aval) (G.map fun y => y.2 == (p, q)) := Eqs.of aval (fun y => y.2 == (p, q)) G fun y hy => EqT.pair hD (hG y hy).1 (hG y hy).2.1 hp hq (hG y hy).2.2 ht
  refine notin_list F Cc hA hg he fun s' F' => ?_
  have e : (G.map fun y => y.2 == (p, q)).any id = Gm G p q := by rw [List.any_map]; rfl
  rw [e]; exact h s' F'
/-- an id in tvars -/
theorem in_ids {Q : Value → Shared → Prop} (F : St s₀ R Z B V L m s) (Cc : Cx w mg mb Z) (hA : Lv 2 A) (hD : DomOK D B) (ht : At B V tl (listO (idsV D) k)) (hp : p < D.n)
    (h : ∀ s', St s₀ R Z B V L m s' → Q (.bool true) s') : wpAny (model prog w) A (compareOp .In (.ref (D.id p)) (.ref tl)) Q E s := by
  have he : Eqs w mg mb B 1 (.ref (D.id p)) (idsV D) ((List.range D.n).map fun y => y == p) := Eqs.of (idV D) (fun y => y == p) _ fun y hy => EqT.id (hD.id y (List.mem_range.mp hy)) (hD.id p hp)
  refine in_list F Cc hA ht he fun s' F' => ?_
  have e : ((List.range D.n).map fun y => y == p).any id = true := by
    rw [List.any_eq_true]
    exact ⟨true, List.mem_map.mpr ⟨p, List.mem_range.mpr hp, by simp⟩, rfl⟩
  rw [e]; exact h s' F'
theorem ids_at {v : Value} (h : (idsV D)[j]? = some v) : j < D.n ∧ v = .ref (D.id j) := by
  unfold idsV at h
  rw [List.getElem?_map] at h
  cases e : (List.range D.n)[j]? with
  | none => rw [e] at h; cases h
  | some y =>
    rw [e] at h
    have h1 := (List.getElem?_eq_some_iff.mp e)
    obtain ⟨h2, h3⟩ := h1
    simp at h2 h3
    subst h3
    exact ⟨h2, (Option.some.inj h).symm⟩
/-- rows[u] -/
theorem row_get {Q : Value → Shared → Prop} (F : St s₀ R Z B V L m s) (Cc : Cx w mg mb Z) (hA : Lv 2 A) (hD : DomOK D B) (hr : RowsAt D V c d f) (hp : p < D.n)
    (h : ∀ a k s', V (c, p) = some (a, listO ((f p).map (clsV D)) k) → St s₀ R Z B V L m s' → Q (.ref a) s') : wpAny (model prog w) A (getItem (.ref d) (.ref (D.id p))) Q E s := by
  obtain ⟨as, ep, h1, h2, h3⟩ := hr.ex
  have hlt : p < as.length := by rw [h1]; exact hp
  obtain ⟨k, hk⟩ := h3 p as[p] (List.getElem?_eq_getElem hlt)
  refine d_item (vs := as.map .ref) F Cc hA ⟨At.ofV h2, fun j hj => hD.id j (by simp [h1] at hj; exact hj), by simp [h1]; exact hD.n5⟩ (hD.id p hp) (v := .ref as[p]) (by simp [hlt]) fun s' F' => h _ k s' hk F'
end

end
section
def upd (f : Nat → List Nat) (u : Nat) (l : List Nat) : Nat → List Nat := fun j => if j = u then l else f j
def putn (l : List Nat) (q : Nat) : List Nat := if l.any (· == q) then l else l ++ [q]
theorem dedup_nodup : ∀ (l : List Nat), (dedup l).Nodup := fun l => by
  refine snoc_ind (P := fun l => (dedup l).Nodup) List.nodup_nil (fun l x ih => ?_) l
  rw [dedup_snoc]
  split
  · exact ih
  · rename_i h
    rw [List.nodup_append]
    refine ⟨ih, (by simp), fun a ha b hb => ?_⟩
    simp at hb; subst hb
    intro e; subst e
    exact h (List.any_eq_true.mpr ⟨a, ha, by simp⟩)
theorem putn_nodup {l : List Nat} {q : Nat} (h : l.Nodup) : (putn l q).Nodup := by
  unfold putn
  split
  · exact h
  · rename_i h'
    rw [List.nodup_append]
    refine ⟨h, (by simp), fun a ha b hb => ?_⟩
    simp at hb; subst hb
    intro e; subst e
    exact h' (List.any_eq_true.mpr ⟨a, ha, by simp⟩)
theorem putn_lt {l : List Nat} {q : Nat} (h : ∀ x ∈ l, x < 3) (hq : q < 3) : ∀ x ∈ putn l q, x < 3 := by
  unfold putn
  split
  · exact h
  · intro x hx
    rcases List.mem_append.mp hx with hx | hx
    · exact h x hx
    · simp at hx; omega
section
variable {prog : Program} {w : World} {A : Around} {E : Value → Shared → Prop} {s₀ s : Shared} {R Z B : View} {V : Dyn} {L a b l t g d tl x : Addr} {m mg mb : Str → Option Value} {env : Env} {k n p q j : Nat} {i i' : Nat × Nat} {D : Dom} {G : List (Addr × Pr)} {f : Nat → List Nat} {c : Nat} {o : Obj}

theorem St.moveV (F : St s₀ R Z B V L m s) (hi : V i = some (a, o)) : St s₀ R Z B ((V.del i).put i' (a, o)) L m s := by
  have hd : ∀ j p, ((V.del i).put i' (a, o)) j = some p → ∃ j₀, V j₀ = some p ∧ (j = i' ∧ j₀ = i ∨ j ≠ i' ∧ j₀ = j ∧ j ≠ i) := fun j p e => by
    unfold Dyn.put Dyn.del at e
    split at e
    · rename_i h; exact ⟨i, by rw [hi]; exact e, .inl ⟨h, rfl⟩⟩
    · rename_i h
      split at e
      · cases e
      · rename_i h'; exact ⟨j, e, .inr ⟨h, rfl, h'⟩⟩
  refine ⟨⟨F.r, F.b, fun j a p e => ?_, fun j j' b p p' e e' => ?_, F.same, F.z⟩, F.ns, F.lR, F.lB, fun j p e => ?_⟩
  · obtain ⟨j₀, h, _⟩ := hd _ _ e; exact F.v _ _ _ h
  · obtain ⟨j₀, h, hh⟩ := hd _ _ e
    obtain ⟨j₁, h', hh'⟩ := hd _ _ e'
    have := F.inj _ _ _ _ _ h h'
    rcases hh with ⟨rfl, rfl⟩ | ⟨h1, rfl, h2⟩ <;> rcases hh' with ⟨rfl, rfl⟩ | ⟨h1', rfl, h2'⟩
    · rfl
    · exact absurd this.symm h2'
    · exact absurd this h2
    · exact this
  · obtain ⟨j₀, h, _⟩ := hd _ _ e; exact F.lV _ _ h

/-- put(rows[u], cls) -/
theorem row_put {Q : Value → Shared → Prop} (F : St s₀ R Z B V L m s) (Cc : Cx w mg mb Z) (hA : Lv 3 A) (hD : DomOK D B) (hr : RowsAt D V c d f) (hp : p < D.n) (hq : q < 3) (ha : V (c, p) = some (a, listO ((f p).map (clsV D)) k))
    (h : ∀ V' s', St s₀ R Z B V' L m s' → Only [c] V V' → RowsAt D V' c d (upd f p (putn (f p) q)) → Q .none s') : wpAny (model prog w) A (call (.ref 392) [.ref a, .ref (D.cls q)]) Q E s := by
  refine c_put (f := clsV D) (n := 1) F Cc hA ha (fun y hy => EqT.cls hD (hr.lt p hp y hy) hq) (Nat.le_trans (hr.len hp) (by decide)) fun k' s' F' => h _ s' F' ((Only.refl _ _).put (by simp) _) ?_
  obtain ⟨as, ep, h1, h2, h3⟩ := hr.ex
  have hp100 : p ≠ 100 := by have := hD.n5; omega
  refine ⟨⟨as, ep, h1, by rw [put_other _ _ (by simp; omega)]; exact h2, fun j b hj => ?_⟩, fun j hj => ?_, fun j hj => ?_⟩
  · by_cases e : j = p
    · subst e
      obtain ⟨k₂, hk₂⟩ := h3 j b hj
      rw [ha] at hk₂
      have : a = b := by cases hk₂; rfl
      subst this
      refine ⟨k', ?_⟩
      unfold upd
      rw [if_pos rfl]
      exact put_self _ _ _
    · obtain ⟨k₂, hk₂⟩ := h3 j b hj
      refine ⟨k₂, ?_⟩
      unfold upd
      rw [if_neg e, put_other _ _ (by simp [e])]
      exact hk₂
  · unfold upd; split
    · rename_i e; subst e; exact putn_lt (hr.lt j hj) hq
    · exact hr.lt j hj
  · unfold upd; split
    · rename_i e; subst e; exact putn_nodup (hr.nd j hj)
    · exact hr.nd j hj

/-- rows[u] = a new list -/
theorem row_set {Q : Unit → Shared → Prop} {ws : List Nat} (F : St s₀ R Z B V L m s) (Cc : Cx w mg mb Z) (hA : Lv 2 A) (hD : DomOK D B) (hr : RowsAt D V c d f) (hp : p < D.n) (hi : V i = some (a, listO (ws.map (clsV D)) k)) (hic : i.1 ≠ c) (hlt : ∀ q ∈ ws, q < 3) (hnd : ws.Nodup)
    (h : ∀ V' s', St s₀ R Z B V' L m s' → Only [c, i.1] V V' → RowsAt D V' c d (upd f p ws) → Q () s') : wpAny (model prog w) A (setItem (.ref d) (.ref (D.id p)) (.ref a)) Q E s := by
  obtain ⟨as, ep, h1, h2, h3⟩ := hr.ex
  have hp100 : p ≠ 100 := by have := hD.n5; omega
  refine d_store (vs := as.map .ref) F Cc hA h2 (fun j hj => hD.id j (by simp [h1] at hj; exact hj)) (by simp [h1]; exact hD.n5) (hD.id p hp) (Nat.lt_of_lt_of_le hp hD.n5) (by simp [h1]; omega) fun ep' s' F' => ?_
  have hi' : (V.put (c, 100) (d, dictD D.id (putAt (as.map .ref) p (.ref a)) ep')) i = some (a, listO (ws.map (clsV D)) k) := by
    rw [put_other _ _ (fun e => hic (by rw [e]))]; exact hi
  have F₂ := F'.moveV (i' := (c, p)) hi'
  refine h _ s' F₂ (fun j hj => ?_) ⟨⟨as.set p a, ep', by simp [h1], ?_, fun j b hj => ?_⟩, fun j hj => ?_, fun j hj => ?_⟩
  · simp only [List.mem_cons, List.not_mem_nil, or_false, not_or] at hj
    rw [put_other _ _ (fun e => hj.1 (by rw [e]))]
    unfold Dyn.del
    rw [if_neg (fun e => hj.2 (by rw [e])), put_other _ _ (fun e => hj.1 (by rw [e]))]
  · rw [put_other _ _ (by simp; omega)]
    unfold Dyn.del
    rw [if_neg (fun e => hic (by rw [← e])), put_self]
    have : putAt (as.map Value.ref) p (.ref a) = (as.set p a).map .ref := by
      unfold putAt; rw [if_pos (by simp [h1]; exact hp), List.map_set]
    rw [this]
  · rw [List.getElem?_set] at hj
    by_cases e : p = j
    · subst e
      rw [if_pos rfl, if_pos (by rw [h1]; exact hp)] at hj
      have : a = b := Option.some.inj hj
      subst this
      refine ⟨k, ?_⟩
      unfold upd; rw [if_pos rfl]; exact put_self _ _ _
    · rw [if_neg e] at hj
      obtain ⟨k₂, hk₂⟩ := h3 j b hj
      have hj100 : j ≠ 100 := by have := (List.getElem?_eq_some_iff.mp hj).1; have := hD.n5; omega
      refine ⟨k₂, ?_⟩
      unfold upd
      rw [if_neg (fun q => e q.symm), put_other _ _ (by simp [Ne.symm e])]
      unfold Dyn.del
      rw [if_neg (fun q => hic (by rw [← q])), put_other _ _ (by simp [hj100])]
      exact hk₂
  · unfold upd; split
    · exact hlt
    · exact hr.lt j hj
  · unfold upd; split
    · exact hnd
    · exact hr.nd j hj

/-- for u in tvars -/
theorem for_ids {target : Expr} {body : List Stmt} {Q : Flow → Shared → Prop} (inv : Nat → View → Dyn → (Str → Option Value) → Prop)
    (F : St s₀ R Z B V L m s) (hA : A.handled = none) (ht : B tl = some (listO (idsV D) k)) (h0 : inv 0 B V m)
    (turn : ∀ j R' B' V' m' s', j < D.n → B.le B' → inv j B' V' m' → St s₀ R' Z B' V' L m' s' →
      wpAny (model prog w) A (assign target env (.ref (D.id j))) (fun _ s₂ => wpAny (model prog w) A (execs body env) (fun f s₃ => BodyEnd f (After s₀ R' Z B' inv j L s₃)) (fun _ _ => False) s₂) (fun _ _ => False) s')
    (done : ∀ B' V' m' s', B.le B' → inv D.n B' V' m' → St s₀ R Z B' V' L m' s' → Q .next s') :
    wpAny (model prog w) A (pyIter (.ref tl)) (fun it s₂ => codeAny (model prog w) A (.forLoop target it body [] env) (fun r s' => match r with | .ok f => Q f s' | .error e => cameBackBy (model prog w) A env E e s') s₂) E s := by
  have hlen : (idsV D).length = D.n := by unfold idsV; simp
  refine for_src (fun j B' V' m' => B.le B' ∧ inv j B' V' m') F (Src.list hA (At.ofB ht)) ⟨View.le.refl _, h0⟩ (fun j B' V' m' hI hl => At.ofB (hl _ _ ht)) (fun j v R' B' V' m' s' hj hP hl hI F' => ?_) fun B' V' m' s' hl hI F' => done B' V' m' s' hl (by rw [hlen] at hI; exact hI.2) F'
  obtain ⟨hjn, rfl⟩ := ids_at hP
  refine wpAny_mono (turn j R' B' V' m' s' hjn hl hI.2 F') (fun _ s₂ h₂ => wpAny_mono h₂ (fun fl s₃ h₃ => ⟨h₃.1, ?_⟩) fun _ _ e => e) fun _ _ e => e
  obtain ⟨B'', V'', m'', hl', hI', F''⟩ := h₃.2
  exact ⟨B'', V'', m'', hl', ⟨hl.trans hl', hI'⟩, F''⟩
end

end
section
def mem (P : List Pr) (a b : Nat) : Bool := P.any (· == (a, b))
def pairsNew (n : Nat) (P : List Pr) (lower upper : Nat) : List Pr :=
  (List.range n).flatMap fun l => (List.range n).flatMap fun u => if mem P l lower && mem P upper u && !mem P l u then [(l, u)] else []
def foldLo (n : Nat) (P : List Pr) (lower upper : Nat) (f : Nat → List Nat) : Nat → List Nat := (List.range n).foldl (fun f u => if mem P upper u then upd f u (dedup (f u ++ f lower)) else f) f
def foldUp (n : Nat) (P : List Pr) (lower upper : Nat) (f : Nat → List Nat) : Nat → List Nat := (List.range n).foldl (fun f l => if mem P l lower then upd f l (dedup (f l ++ f upper)) else f) f
def putUp (n : Nat) (P : List Pr) (a q : Nat) (f : Nat → List Nat) : Nat → List Nat := (List.range n).foldl (fun f l => if mem P l a then upd f l (putn (f l) q) else f) f
def putLo (n : Nat) (P : List Pr) (a q : Nat) (f : Nat → List Nat) : Nat → List Nat := (List.range n).foldl (fun f u => if mem P a u then upd f u (putn (f u) q) else f) f
structure CS where
  P : List Pr
  lo : Nat → List Nat
  up : Nat → List Nat
  rem : List Con
  asks : List Ask
def secStep (fo : Bool) (x : List Con × List Ask) (q : Nat × Nat) : List Con × List Ask := (secRem fo x.1 x.2.isEmpty, x.2 ++ [(0, q.1, q.2), (1, q.1, q.2)])
def secs (fo : Bool) (x : List Con × List Ask) (L : List (Nat × Nat)) : List Con × List Ask := L.foldl (secStep fo) x
def cross (l1 l2 : List Nat) : List (Nat × Nat) := l1.flatMap fun a => l2.map fun b => (a, b)
def CS.withSecs (S : CS) (fo : Bool) (L : List (Nat × Nat)) : CS := { S with rem := (secs fo (S.rem, S.asks) L).1, asks := (secs fo (S.rem, S.asks) L).2 }
def stepVar (fo : Bool) (n : Nat) (S : CS) (lower upper : Nat) : CS :=
  if mem S.P lower upper then S else
    let P' := S.P ++ pairsNew n S.P lower upper
    let lo' := foldLo n P' lower upper S.lo
    let up' := foldUp n P' lower upper S.up
    CS.withSecs { S with P := P', lo := lo', up := up' } fo (cross (lo' lower) (up' upper))
def stepSub (fo : Bool) (n : Nat) (S : CS) (a j : Nat) : CS :=
  if (S.up a).any (· == j) then S else CS.withSecs { S with up := putUp n S.P a j S.up } fo ((S.lo a).map fun x => (x, j))
def stepSup (fo : Bool) (n : Nat) (S : CS) (a j : Nat) : CS :=
  if (S.lo a).any (· == j) then S else CS.withSecs { S with lo := putLo n S.P a j S.lo } fo ((S.up a).map fun x => (j, x))
def step (fo : Bool) (n : Nat) (S : CS) (c : Con) : CS :=
  if c.2.2.1 then (if c.2.1 then stepVar fo n S c.2.2.2 c.1 else stepVar fo n S c.1 c.2.2.2)
  else if c.2.1 then stepSup fo n S c.1 c.2.2.2 else stepSub fo n S c.1 c.2.2.2
inductive Run (fo : Bool) (n : Nat) : CS → CS → Prop
  | done {S : CS} : S.rem = [] → Run fo n S S
  | next {S S' : CS} {r : List Con} {c : Con} : S.rem = r ++ [c] → Run fo n (step fo n { S with rem := r } c) S' → Run fo n S S'
def start (n : Nat) (cons : List Con) : CS := ⟨(List.range n).map fun j => (j, j), fun _ => [], fun _ => [], dedup cons, []⟩

structure TCs (D : Dom) (al tl g du dl ra cu cw cg ct : Addr) (B : View) (V : Dyn) (G : List (Addr × Pr)) (lo up : Nat → List Nat) (rem : List (Addr × Con)) (asks : List (Addr × Ask)) : Prop where
  ok : DomOK D B
  gv : ∃ k, V (1, 0) = some (g, listO (G.map aval) k)
  gi : GIs D B G
  up : RowsAt D V 2 du up
  lo : RowsAt D V 3 dl lo
  rem : RemSt D B V ra rem
  ask : AskSt B V al asks
  tv : ∃ o, V (5, 3) = some (ct, o) ∧ o.data = .cell (some (.ref tl))
  gr : ∃ o, V (5, 2) = some (cg, o) ∧ o.data = .cell (some (.ref g))
  lw : ∃ o v, V (5, 1) = some (cw, o) ∧ o.data = .cell v
  uc : ∃ o v, V (5, 0) = some (cu, o) ∧ o.data = .cell v
def csOf (G : List (Addr × Pr)) (lo up : Nat → List Nat) (rem : List (Addr × Con)) (asks : List (Addr × Ask)) : CS := ⟨G.map (·.2), lo, up, rem.map (·.2), asks.map (·.2)⟩
theorem Gm_mem (G : List (Addr × Pr)) (a b : Nat) : Gm G a b = mem (G.map (·.2)) a b := by unfold Gm mem; rw [List.any_map]; rfl
theorem rowsV4 (V : Dyn) (c : Nat) (p0 p1 p2 p3 : Addr × Obj) : rowsV V c [p0, p1, p2, p3] = (((V.put (c, 0) p0).put (c, 1) p1).put (c, 2) p2).put (c, 3) p3 := by
  have e0 : (rowsV V c []).put (c, 0) p0 = rowsV V c [p0] := rowsV_snoc V c [] p0
  have e1 : (rowsV V c [p0]).put (c, 1) p1 = rowsV V c [p0, p1] := rowsV_snoc V c [p0] p1
  have e2 : (rowsV V c [p0, p1]).put (c, 2) p2 = rowsV V c [p0, p1, p2] := rowsV_snoc V c [p0, p1] p2
  have e3 : (rowsV V c [p0, p1, p2]).put (c, 3) p3 = rowsV V c [p0, p1, p2, p3] := rowsV_snoc V c [p0, p1, p2] p3
  rw [← e3, ← e2, ← e1, ← e0, rowsV_nil]
theorem four {rows : List (Addr × Obj)} {a b c d : Addr × Obj} (h : rows.length = 4) (h0 : rows[0]? = some a) (h1 : rows[1]? = some b) (h2 : rows[2]? = some c) (h3 : rows[3]? = some d) : rows = [a, b, c, d] := by
  apply List.ext_getElem?
  intro j
  by_cases e0 : j = 0
  · subst e0; exact h0
  by_cases e1 : j = 1
  · subst e1; exact h1
  by_cases e2 : j = 2
  · subst e2; exact h2
  by_cases e3 : j = 3
  · subst e3; exact h3
  rw [List.getElem?_eq_none (by omega), List.getElem?_eq_none (by simp; omega)]
section
variable {prog : Program} {w : World} {A : Around} {E : Value → Shared → Prop} {s₀ s : Shared} {R Z B : View} {V : Dyn} {L a c : Addr} {m mg mb : Str → Option Value} {env : Env} {x : Str} {pos : Pos} {v : Value} {o : Obj} {Q : Value → Shared → Prop}
theorem x_locK (hx : env.kindOf x = some .local) (F : St s₀ R Z B V L m s) (hv : m x = some v) (h : Q v s) (hL : env.locals = L := by rfl) (hk : env.scope.kind = .function := by rfl) (hd : (x == ("__debug__" : Str)) = false := by decide) :
    wpAny (model prog w) A (eval (.Name x pos) env) Q E s := x_loc F hv h hL hk hx hd
theorem x_cellK (hx : env.kindOf x = some .cell) (F : St s₀ R Z B V L m s) (hc : env.cells.lookup x = some c) (ho : At B V c o) (hd' : o.data = .cell (some v)) (h : Q v s) (hk : env.scope.kind = .function := by rfl) (hd : (x == ("__debug__" : Str)) = false := by decide) :
    wpAny (model prog w) A (eval (.Name x pos) env) Q E s := x_cell F hc ho hd' h hk hx hd
theorem x_cellL (hc : env.cells.lookup x = some c) (F : St s₀ R Z B V L m s) (ho : At B V c o) (hd' : o.data = .cell (some v)) (h : Q v s) (hx : env.kindOf x = some .cell := by rfl) (hk : env.scope.kind = .function := by rfl) (hd : (x == ("__debug__" : Str)) = false := by decide) :
    wpAny (model prog w) A (eval (.Name x pos) env) Q E s := x_cell F hc ho hd' h hk hx hd
end
theorem rows_init {D : Dom} {V : Dyn} {c : Nat} {d : Addr} {rows : List Addr} {ep : Nat} (hr : rows.length = D.n) (h5 : D.n ≤ 5) :
    RowsAt D ((rowsV V c (rows.map fun a => (a, listO [] 0))).put (c, 100) (d, dictD D.id (rows.map .ref) ep)) c d (fun _ => []) := by
  refine ⟨⟨rows, ep, hr, put_self _ _ _, fun j a hj => ⟨0, ?_⟩⟩, fun _ _ q h => absurd h (by simp), fun _ _ => List.nodup_nil⟩
  have hlt := (List.getElem?_eq_some_iff.mp hj).1
  rw [put_other _ _ (by simp; omega)]
  unfold rowsV
  rw [if_pos rfl, if_pos (by simpa using hlt), List.getElem?_map, hj]
  rfl
theorem rows_only {D : Dom} {V : Dyn} {c : Nat} {d : Addr} {rows : List Addr} {ep : Nat} : Only [c] V ((rowsV V c (rows.map fun a => (a, listO [] 0))).put (c, 100) (d, dictD D.id (rows.map .ref) ep)) := fun j hj => by
  have hj' : j.1 ≠ c := by simpa using hj
  rw [put_other _ _ (fun e => hj' (by rw [e]))]
  unfold rowsV; rw [if_neg hj']
/-- what the turns put out: pairs -/
def OutP (D : Dom) (f : Nat → List Pr) (B : View) (j : Nat) (zs : List Value) : Prop := ∃ G : List (Addr × Pr), zs = G.map aval ∧ G.map (·.2) = f j ∧ GIs D B G
theorem OutP.mono {D : Dom} {f : Nat → List Pr} (B' B'' : View) (j : Nat) (zs : List Value) (hl : B'.le B'') (h : OutP D f B' j zs) : OutP D f B'' j zs := let ⟨G, a, b, c⟩ := h; ⟨G, a, b, c.le hl⟩
theorem cat_pairs {D : Dom} {B : View} {f : Nat → List Pr} {n : Nat} {zs : List Value} (c : Cat (OutP D f B) n zs) : ∃ G : List (Addr × Pr), zs = G.map aval ∧ G.map (·.2) = (List.range n).flatMap f ∧ GIs D B G := by
  induction c with
  | zero => exact ⟨[], rfl, rfl, fun p h => absurd h (by simp)⟩
  | @succ n ys zs _ o ih =>
    obtain ⟨G, h1, h2, h3⟩ := ih
    obtain ⟨G', g1, g2, g3⟩ := o
    refine ⟨G ++ G', by rw [h1, g1, List.map_append], by rw [List.map_append, h2, g2, List.range_succ, List.flatMap_append]; simp, fun p hp => ?_⟩
    rcases List.mem_append.mp hp with hp | hp
    · exact h3 p hp
    · exact g3 p hp
theorem dedup_snd (l : List (Addr × Con)) : (@dedup _ conEq l).map (·.2) = dedup (l.map (·.2)) := by
  refine snoc_ind (P := fun l => (@dedup _ conEq l).map (·.2) = dedup (l.map (·.2))) rfl (fun l x ih => ?_) l
  rw [@dedup_snoc _ conEq, List.map_append, List.map_singleton, dedup_snoc, ← ih]
  have e : (@dedup _ conEq l).any (fun y => conEq.beq y x) = ((@dedup _ conEq l).map (·.2)).any (· == x.2) := by rw [List.any_map]; rfl
  rw [← e]
  show List.map _ (if ((@dedup _ conEq l).any fun y => conEq.beq y x) = true then _ else _) = _
  split <;> simp
section
variable {prog : Program} {w : World} {A : Around} {E : Value → Shared → Prop} {s₀ s : Shared} {R Z B : View} {V : Dyn} {L a : Addr} {m mg mb : Str → Option Value} {D : Dom} {cons : List (Addr × Con)} {k : Nat}
theorem c_dedupC {Q : Value → Shared → Prop} (F : St s₀ R Z B V L m s) (Cc : Cx w mg mb Z) (hD : DomOK D B) (hA : Lv 6 A) (hv : B a = some (listO (cons.map aval) k)) (his : ∀ p ∈ cons, IsCon D B p.1 p.2) (hsz : cons.length ≤ 100000)
    (h : ∀ b V' s' rem', St s₀ R Z B V' L m s' → Only [4] V V' → RemSt D B V' b rem' → rem'.map (·.2) = dedup (cons.map (·.2)) → Q (.ref b) s') : wpAny (model prog w) A (call (.ref 385) [.ref a]) Q E s := by
  refine @c_dedup prog w A E s₀ s R Z B V L a m mg mb k 4 (Addr × Con) conEq aval cons Q (4, 0) F Cc hA (At.ofB hv) (fun p => At.ofB hv) (fun y hy x hx => EqT.con hD (his y hy) (his x hx)) hsz fun b k' s' hb F' => ?_
  exact h b _ s' _ F' ((Only.refl _ _).put (by simp) _) ⟨⟨k', put_self _ _ _⟩, fun p hp => his p ((@dedup_sub _ conEq cons).1 p hp)⟩ (dedup_snd cons)
end
theorem TCs.leB {D : Dom} {al tl g du dl ra cu cw cg ct : Addr} {B B' : View} {V : Dyn} {G : List (Addr × Pr)} {lo up : Nat → List Nat} {rem : List (Addr × Con)} {asks : List (Addr × Ask)}
    (T : TCs D al tl g du dl ra cu cw cg ct B V G lo up rem asks) (hl : B.le B') : TCs D al tl g du dl ra cu cw cg ct B' V G lo up rem asks :=
  ⟨T.ok.le hl, T.gv, T.gi.le hl, T.up, T.lo, T.rem.le hl rfl, T.ask.le hl rfl, T.tv, T.gr, T.lw, T.uc⟩
theorem last_of {α : Type} {l : List α} (h : l ≠ []) : ∃ r x, l = r ++ [x] := ⟨l.dropLast, l.getLast h, (List.dropLast_concat_getLast h).symm⟩
section
variable {prog : Program} {w : World} {A : Around} {E : Value → Shared → Prop} {s₀ s : Shared} {R Z B : View} {V : Dyn} {L d : Addr} {m mg mb : Str → Option Value} {D : Dom} {c p : Nat} {f : Nat → List Nat}
/-- an id is never missing among rows -/
theorem row_notin {Q : Value → Shared → Prop} (F : St s₀ R Z B V L m s) (Cc : Cx w mg mb Z) (hA : Lv 2 A) (hD : DomOK D B) (hr : RowsAt D V c d f) (hp : p < D.n)
    (h : ∀ s', St s₀ R Z B V L m s' → Q (.bool false) s') : wpAny (model prog w) A (compareOp .NotIn (.ref (D.id p)) (.ref d)) Q E s := by
  obtain ⟨as, ep, h1, h2, h3⟩ := hr.ex
  exact d_notin (vs := as.map .ref) F Cc hA ⟨At.ofV h2, fun j hj => hD.id j (by simp [h1] at hj; exact hj), by simp [h1]; exact hD.n5⟩ (hD.id p hp) (by simp [h1]; exact hp) h
end
theorem TCs.only {D : Dom} {al tl g du dl ra cu cw cg ct : Addr} {B B' : View} {V V' : Dyn} {G : List (Addr × Pr)} {lo up : Nat → List Nat} {rem rem' : List (Addr × Con)} {asks asks' : List (Addr × Ask)}
    (T : TCs D al tl g du dl ra cu cw cg ct B V G lo up rem asks) (hl : B.le B') (on : Only [4, 6, 7, 8, 9] V V') (hr : RemSt D B' V' ra rem') (ha : AskSt B' V' al asks') : TCs D al tl g du dl ra cu cw cg ct B' V' G lo up rem' asks' :=
  ⟨T.ok.le hl, let ⟨k, e⟩ := T.gv; ⟨k, (on _ (by decide)).trans e⟩, T.gi.le hl, T.up.only on (by decide), T.lo.only on (by decide), hr, ha,
    let ⟨o, e, h⟩ := T.tv; ⟨o, (on _ (by decide)).trans e, h⟩, let ⟨o, e, h⟩ := T.gr; ⟨o, (on _ (by decide)).trans e, h⟩, let ⟨o, v, e, h⟩ := T.lw; ⟨o, v, (on _ (by decide)).trans e, h⟩, let ⟨o, v, e, h⟩ := T.uc; ⟨o, v, (on _ (by decide)).trans e, h⟩⟩
theorem TCs.cells {D : Dom} {al tl g du dl ra cu cw cg ct : Addr} {B B' : View} {V V' : Dyn} {G : List (Addr × Pr)} {lo up : Nat → List Nat} {rem : List (Addr × Con)} {asks : List (Addr × Ask)} {o0 o1 : Obj} {v0 v1 : Option Value}
    (T : TCs D al tl g du dl ra cu cw cg ct B V G lo up rem asks) (hl : B.le B') (on : ∀ i, i ≠ (5, 0) → i ≠ (5, 1) → V' i = V i) (h0 : V' (5, 0) = some (cu, o0)) (d0 : o0.data = .cell v0) (h1 : V' (5, 1) = some (cw, o1)) (d1 : o1.data = .cell v1) :
    TCs D al tl g du dl ra cu cw cg ct B' V' G lo up rem asks := by
  have on' : Only [5] V V' := fun i hi => on i (fun e => hi (by rw [e]; simp)) (fun e => hi (by rw [e]; simp))
  exact ⟨T.ok.le hl, let ⟨k, e⟩ := T.gv; ⟨k, (on' _ (by decide)).trans e⟩, T.gi.le hl, T.up.only on' (by decide), T.lo.only on' (by decide), T.rem.le hl (on' _ (by decide)), T.ask.le hl (on' _ (by decide)),
    let ⟨o, e, h⟩ := T.tv; ⟨o, (on _ (by decide) (by decide)).trans e, h⟩, let ⟨o, e, h⟩ := T.gr; ⟨o, (on _ (by decide) (by decide)).trans e, h⟩, ⟨o1, v1, h1, d1⟩, ⟨o0, v0, h0, d0⟩⟩
theorem TCs.graph {D : Dom} {al tl g du dl ra cu cw cg ct : Addr} {B B' : View} {V V' : Dyn} {G G' : List (Addr × Pr)} {lo up : Nat → List Nat} {rem : List (Addr × Con)} {asks : List (Addr × Ask)} {o : Obj} {k : Nat}
    (T : TCs D al tl g du dl ra cu cw cg ct B V G lo up rem asks) (hl : B.le B') (on : ∀ i, i.1 ∉ [1, 6] → i ≠ (5, 2) → V' i = V i) (hg : V' (1, 0) = some (g, listO (G'.map aval) k)) (gi : GIs D B' G') (hc : V' (5, 2) = some (cg, o)) (hd : o.data = .cell (some (.ref g))) :
    TCs D al tl g du dl ra cu cw cg ct B' V' G' lo up rem asks := by
  have on' : Only [1, 5, 6] V V' := fun i hi => on i (fun e => hi (by simp at e ⊢; omega)) (fun e => hi (by rw [e]; simp))
  exact ⟨T.ok.le hl, ⟨k, hg⟩, gi, T.up.only on' (by decide), T.lo.only on' (by decide), T.rem.le hl (on' _ (by decide)), T.ask.le hl (on' _ (by decide)),
    let ⟨o, e, h⟩ := T.tv; ⟨o, (on _ (by decide) (by decide)).trans e, h⟩, ⟨o, hc, hd⟩, let ⟨o, v, e, h⟩ := T.lw; ⟨o, v, (on _ (by decide) (by decide)).trans e, h⟩, let ⟨o, v, e, h⟩ := T.uc; ⟨o, v, (on _ (by decide) (by decide)).trans e, h⟩⟩
theorem TCs.rows {D : Dom} {al tl g du dl ra cu cw cg ct : Addr} {B B' : View} {V V' : Dyn} {G : List (Addr × Pr)} {lo up lo' up' : Nat → List Nat} {rem : List (Addr × Con)} {asks : List (Addr × Ask)}
    (T : TCs D al tl g du dl ra cu cw cg ct B V G lo up rem asks) (hl : B.le B') (on : Only [2, 3, 6] V V') (hu : RowsAt D V' 2 du up') (hlo : RowsAt D V' 3 dl lo') : TCs D al tl g du dl ra cu cw cg ct B' V' G lo' up' rem asks :=
  ⟨T.ok.le hl, let ⟨k, e⟩ := T.gv; ⟨k, (on _ (by decide)).trans e⟩, T.gi.le hl, hu, hlo, T.rem.le hl (on _ (by decide)), T.ask.le hl (on _ (by decide)),
    let ⟨o, e, h⟩ := T.tv; ⟨o, (on _ (by decide)).trans e, h⟩, let ⟨o, e, h⟩ := T.gr; ⟨o, (on _ (by decide)).trans e, h⟩, let ⟨o, v, e, h⟩ := T.lw; ⟨o, v, (on _ (by decide)).trans e, h⟩, let ⟨o, v, e, h⟩ := T.uc; ⟨o, v, (on _ (by decide)).trans e, h⟩⟩

end
section
section
variable {prog : Program} {w : World} {A : Around} {E : Value → Shared → Prop} {s₀ s : Shared} {R Z B : View} {V : Dyn} {L t : Addr} {m mg mb : Str → Option Value} {env : Env} {e1 e2 value : Expr} {x1 : Nat} {tp pos : Pos} {v1 v2 : Value}
theorem unpack2 {Q : Unit → Shared → Prop} (F : St s₀ R Z B V L m s) (hh : A.handled = none) (ht : B t = some (tupO [v1, v2]))
    (h : ∀ s', St s₀ R Z B V L m s' → wpAny (model prog w) A (assign e1 env v1) (fun _ s₁ => wpAny (model prog w) A (assign e2 env v2) Q E s₁) E s')
    (he : assignEach [e1, e2] env = [(false, assign e1 env), (false, assign e2 env)] := by rfl) :
    wpAny (model prog w) A (assign (.Tuple [e1, e2] x1 tp) env (.ref t)) Q E s := by
  refine PySem.wpAny_assign_Tuple (items := #[v1, v2]) hh ⟨_, (F.b _ _ ht).1, rfl, _, rfl⟩ (by rw [he]; rfl) (by rw [he]; rfl) fun h' hk => ?_
  have F' : St s₀ R Z B V L m { s with heap := h' } := F.keep (tk := s.toks) fun b o e => hk b o (fun q => by rw [q, get_fresh] at e; cases e) e
  rw [he]
  show wpAny _ _ (assignInOrder [assign e1 env, assign e2 env] [v1, v2]) _ _ _
  unfold assignInOrder
  refine wpAny_bind (wpAny_holding (wpAny_mono (h _ F') (fun _ s₁ h₁ => ?_) fun _ _ e => e))
  exact wpAny_assignInOrder_more (wpAny_mono h₁ (fun _ s₂ h₂ => wpAny_assignInOrder_none h₂) fun _ _ e => e)
theorem x_AssignTuple {elts : List Expr} {Q : Flow → Shared → Prop}
    (h : wpAny (model prog w) A (eval value env) (fun v s₁ => wpAny (model prog w) A (assign (.Tuple elts x1 tp) env v) (fun _ s₂ => Q .next s₂) E s₁) E s)
    (hs : swapsWithSole [.Tuple elts x1 tp] value pos.line env = pure false := by rfl) (hw : swappedStores [.Tuple elts x1 tp] value env = pure none := by rfl)
    (he : (assignEach [.Tuple elts x1 tp] env).map (·.2) = [assign (.Tuple elts x1 tp) env] := by rfl) :
    wpAny (model prog w) A (exec (.Assign [.Tuple elts x1 tp] value pos) env) Q E s := by
  refine wpAny_Assign_stores (wpAny_mono h (fun v s₁ h₁ => ?_) fun _ _ e => e) hs hw
  rw [he]
  exact h₁
end
section
variable {prog : Program} {w : World} {A : Around} {E : Value → Shared → Prop} {R : Result → Shared → Prop} {s₀ s : Shared} {Rv Z B : View} {V : Dyn} {L t g tl : Addr} {m mg mb : Str → Option Value} {env : Env} {D : Dom} {G : List (Addr × Pr)} {p q k : Nat}
theorem while_leaf {test : Expr} {body orelse : List Stmt} (I : Nat → Shared → Prop)
    (turn : ∀ n s, I n s → wpAny (model prog w) A (isTrue test env (eval test env)) (fun b s₂ =>
        if b then wpAny (model prog w) A (execs body env) (fun f s₃ => match f with
            | .next | .cont => Leaf (∃ m, m < n ∧ I m s₃)
            | .brk => R (.ok .next) s₃
            | .ret v => R (.ok (.ret v)) s₃) (fun _ _ => False) s₂
        else wpAny (model prog w) A (execs orelse env) (fun f s₃ => R (.ok f) s₃) (fun _ _ => False) s₂) (fun _ _ => False) s)
    (n : Nat) (h : I n s) : codeAny (model prog w) A (.whileLoop test body orelse env) R s :=
  codeAny_whileLoop I (fun n s hI => wpAny_mono (turn n s hI) (fun b s₂ h₂ => by
    cases b with
    | true => exact wpAny_mono h₂ (fun f s₃ h₃ => by cases f <;> exact h₃) fun _ _ e => e.elim
    | false => exact wpAny_mono h₂ (fun _ _ h₃ => h₃) fun _ _ e => e.elim) fun _ _ e => e.elim) n h
theorem in_graphT {Q : Value → Shared → Prop} (F : St s₀ Rv Z B V L m s) (Cc : Cx w mg mb Z) (hA : Lv 3 A) (ht : B t = some (tupO [.ref (D.id p), .ref (D.id q)])) (hg : At B V g (listO (G.map aval) k)) (hp : p < D.n) (hq : q < D.n) (hD : DomOK D B) (hG : GIs D B G)
    (h : ∀ s', St s₀ Rv Z B V L m s' → Q (.bool (Gm G p q)) s') : wpAny (model prog w) A (compareOp .In (.ref t) (.ref g)) Q E s := in_graph F Cc hA hD hg hG hp hq ht h
theorem notin_graphT {Q : Value → Shared → Prop} (F : St s₀ Rv Z B V L m s) (Cc : Cx w mg mb Z) (hA : Lv 3 A) (ht : B t = some (tupO [.ref (D.id p), .ref (D.id q)])) (hg : At B V g (listO (G.map aval) k)) (hp : p < D.n) (hq : q < D.n) (hD : DomOK D B) (hG : GIs D B G)
    (h : ∀ s', St s₀ Rv Z B V L m s' → Q (.bool (!Gm G p q)) s') : wpAny (model prog w) A (compareOp .NotIn (.ref t) (.ref g)) Q E s := notin_graph F Cc hA hD hg hG hp hq ht h
end
section
variable {prog : Program} {w : World} {A : Around} {E : Value → Shared → Prop} {s₀ s : Shared} {Rv Z B : View} {V : Dyn} {L C c : Addr} {m : Str → Option Value} {env : Env} {scope : Scope} {cl : List (Str × Addr)} {x : Str} {o : Obj} {v : Value} {pos : Pos}
theorem x_cellC {Q : Value → Shared → Prop} (hc : cl.lookup x = some c) (F : St s₀ Rv Z B V L m s) (ho : At B V c o) (hd' : o.data = .cell (some v)) (h : Q v s) (hx : (compEnvC scope cl C env).kindOf x = some .cell := by rfl) (hk : scope.kind = .function := by rfl) (hd : (x == ("__debug__" : Str)) = false := by decide) :
    wpAny (model prog w) A (eval (.Name x pos) (compEnvC scope cl C env)) Q E s := x_cell F hc ho hd' h hk hx hd
end
theorem flatMap_le (n : Nat) (f : Nat → List Pr) (h : ∀ j, (f j).length ≤ 1) : ((List.range n).flatMap f).length ≤ n := by
  induction n with
  | zero => simp
  | succ n ih => rw [List.range_succ, List.flatMap_append, List.length_append]; have := h n; simp only [List.flatMap_cons, List.flatMap_nil, List.append_nil]; omega
theorem leafP {s₀ s : Shared} {Rv Z B B'' : View} {V : Dyn} {C : Addr} {m'' : Str → Option Value} {D : Dom} {f : Nat → List Pr} {j : Nat} {zs : List Value} {Mk : (Str → Option Value) → Prop} (F : St s₀ Rv Z B'' V C m'' s) (hl : B.le B'') (hO : OutP D f B'' j zs) (hm : Mk m'') :
    Leaf (∃ B'' m'', B.le B'' ∧ OutP D f B'' j zs ∧ Mk m'' ∧ St s₀ Rv Z B'' V C m'' s) := Leaf.mk ⟨B'', m'', hl, hO, hm, F⟩
theorem flatMap_le' (n q : Nat) (f : Nat → List Pr) (h : ∀ j, (f j).length ≤ q) : ((List.range n).flatMap f).length ≤ n * q := by
  induction n with
  | zero => simp
  | succ n ih => rw [List.range_succ, List.flatMap_append, List.length_append, Nat.succ_mul]; have := h n; simp only [List.flatMap_cons, List.flatMap_nil, List.append_nil]; omega
theorem pairsNew_len (n : Nat) (P : List Pr) (l u : Nat) (h : n ≤ 5) : (pairsNew n P l u).length ≤ 25 := by
  unfold pairsNew
  refine Nat.le_trans (flatMap_le' n 5 _ fun j => Nat.le_trans (flatMap_le n _ fun u => ?_) h) (by omega)
  split <;> simp
theorem flatMap_len1 (n : Nat) (f : Nat → Pr) : ((List.range n).flatMap fun j => [f j]).length = n := by
  induction n with
  | zero => rfl
  | succ n ih => rw [List.range_succ, List.flatMap_append, List.length_append, ih]; rfl
section
variable {prog : Program} {w : World} {A : Around} {E : Value → Shared → Prop} {s₀ s : Shared} {Rv Z B : View} {V : Dyn} {L d : Addr} {m mg mb : Str → Option Value} {D : Dom} {c p : Nat} {f : Nat → List Nat} {value slice : Expr}
theorem RowsAt.ty (hr : RowsAt D V c d f) (F : St s₀ Rv Z B V L m s) : s.TypeIs (.ref d) "dict" := by
  obtain ⟨as, ep, h1, h2, h3⟩ := hr.ex
  exact ⟨_, (F.v _ _ _ h2).1, rfl⟩
/-- rows[u], in place -/
theorem sub_row {Q : Value → Shared → Prop} (F : St s₀ Rv Z B V L m s) (Cc : Cx w mg mb Z) (hA : Lv 2 A) (hD : DomOK D B) (hr : RowsAt D V c d f) (hp : p < D.n)
    (h : ∀ a k s', V (c, p) = some (a, listO ((f p).map (clsV D)) k) → St s₀ Rv Z B V L m s' → Q (.ref a) s')
    (hs : subscripted slice false (.ref d) (.ref (D.id p)) = operate [.ref d, .ref (D.id p)] (getItem (.ref d) (.ref (D.id p))) := by with_unfolding_all rfl) (ht : ∀ r, letTemporaryGo value (.ref d) r = pure () := by intro _; with_unfolding_all rfl) :
    wpAny (model prog w) A (subscriptTail value slice (.ref d) (.ref (D.id p))) Q E s :=
  subscriptTail_builtin (hr.ty F) slot_dict_getitem.lookup (row_get F Cc hA hD hr hp h) hs ht
end
theorem secRem_le (fo : Bool) (l : List Con) (e : Bool) : (secRem fo l e).length ≤ l.length + (if e = true then 1 else 0) := by
  unfold secRem putc
  by_cases h : fo = true ∧ e = true
  · rw [if_pos h, if_pos h.2]; split <;> simp
  · rw [if_neg h]; omega
theorem secs_snoc (fo : Bool) (x : List Con × List Ask) (L : List (Nat × Nat)) (q : Nat × Nat) : secs fo x (L ++ [q]) = secStep fo (secs fo x L) q := by
  unfold secs; rw [List.foldl_append]; rfl
theorem secs_facts (fo : Bool) (x : List Con × List Ask) (L : List (Nat × Nat)) : (secs fo x L).2.length = x.2.length + 2 * L.length ∧
    (secs fo x L).1.length + (if (secs fo x L).2 = [] then 2 else 0) ≤ x.1.length + (if x.2 = [] then 2 else 0) ∧ (secs fo x L).1.length ≤ x.1.length + 2 := by
  refine snoc_ind (P := fun L => (secs fo x L).2.length = x.2.length + 2 * L.length ∧ (secs fo x L).1.length + (if (secs fo x L).2 = [] then 2 else 0) ≤ x.1.length + (if x.2 = [] then 2 else 0) ∧ (secs fo x L).1.length ≤ x.1.length + 2)
    ⟨rfl, Nat.le_refl _, by show x.1.length ≤ _; omega⟩ (fun L q ih => ?_) L
  obtain ⟨h1, h2, h3⟩ := ih
  rw [secs_snoc]
  generalize secs fo x L = y at h1 h2 h3
  have h4 := secRem_le fo y.1 y.2.isEmpty
  show (y.2 ++ [(0, q.1, q.2), (1, q.1, q.2)]).length = _ ∧ (secRem fo y.1 y.2.isEmpty).length + (if y.2 ++ [(0, q.1, q.2), (1, q.1, q.2)] = [] then 2 else 0) ≤ _ ∧ (secRem fo y.1 y.2.isEmpty).length ≤ _
  rw [if_neg (by simp)]
  by_cases hy : y.2 = []
  · rw [hy] at h2 h4 ⊢
    rw [if_pos rfl] at h2
    simp only [List.isEmpty_nil, if_true] at h4
    refine ⟨?_, by simp only [List.isEmpty_nil]; omega, ?_⟩
    · rw [hy] at h1; simp at h1 ⊢; omega
    · simp only [List.isEmpty_nil]
      split at h2 <;> omega
  · have e : y.2.isEmpty = false := by simpa using hy
    rw [e] at h4 ⊢
    rw [if_neg hy] at h2
    simp only [Bool.false_eq_true, if_false] at h4
    refine ⟨by rw [List.length_append, h1, List.length_append]; simp; omega, by omega, by omega⟩
theorem InferOK.le {w : World} {mg mb : Str → Option Value} {D : Dom} {fo : Bool} {fi al : Addr} {n : Nat} {B B' : View} (h : InferOK w mg mb D fo fi al n B) (hl : B.le B') : InferOK w mg mb D fo fi al n B' :=
  ⟨let ⟨o, fd, e, d⟩ := h.1; ⟨o, fd, hl _ _ e, d⟩, fun prog A E s₀ s R Z B'' V L m Q asks lt ut sd t hb => h.2 prog A E s₀ s R Z B'' V L m Q asks lt ut sd t (hl.trans hb)⟩
structure SecSt (D : Dom) (B : View) (V : Dyn) (ra al : Addr) (fo : Bool) (x : List Con × List Ask) (P : List (Nat × Nat)) : Prop where
  ex : ∃ rem asks, RemSt D B V ra rem ∧ AskSt B V al asks ∧ rem.map (·.2) = (secs fo x P).1 ∧ asks.map (·.2) = (secs fo x P).2
theorem SecSt.keep {D : Dom} {B B' : View} {V V' : Dyn} {ra al : Addr} {fo : Bool} {x : List Con × List Ask} {P : List (Nat × Nat)} (h : SecSt D B V ra al fo x P) (hl : B.le B') (on : V' (4, 0) = V (4, 0)) (on' : V' (9, 0) = V (9, 0)) : SecSt D B' V' ra al fo x P :=
  let ⟨rem, asks, h1, h2, h3, h4⟩ := h.ex; ⟨rem, asks, h1.le hl on, h2.le hl on', h3, h4⟩
theorem sec_step {prog : Program} {w : World} {A : Around} {E : Value → Shared → Prop} {s₀ s : Shared} {Rv Z B : View} {V : Dyn} {L : Addr} {m mg mb : Str → Option Value} {D : Dom} {fo : Bool} {fi al ra : Addr} {n lt ut : Nat} {x : List Con × List Ask} {P : List (Nat × Nat)} {Q : Value → Shared → Prop}
    (F : St s₀ Rv Z B V L m s) (Cc : Cx w mg mb Z) (hA : Lv (n + 8) A) (hD : DomOK D B) (hI : InferOK w mg mb D fo fi al n B) (S : SecSt D B V ra al fo x P) (h1 : x.1.length ≤ 1000) (h2 : x.2.length ≤ 1000) (h3 : P.length ≤ 1000) (hlt : lt < 3) (hut : ut < 3)
    (h : ∀ B' V' s', B.le B' → St s₀ Rv Z B' V' L m s' → Only [4, 8, 9] V V' → SecSt D B' V' ra al fo x (P ++ [(lt, ut)]) → Q .none s') :
    wpAny (model prog w) A (call (.ref 411) [.ref ra, .ref (D.cls lt), .ref (D.cls ut), .ref fi]) Q E s := by
  obtain ⟨rem, asks, hr, ha, e1, e2⟩ := S.ex
  have hf := secs_facts fo x P
  have l1 := congrArg List.length e1
  have l2 := congrArg List.length e2
  rw [List.length_map] at l1 l2
  refine c_addsec F Cc hD hI hA hr ha (by omega) (by omega) hlt hut fun B' V' s' rem' asks' hl F' on hr' ha' e1' e2' => h B' V' s' hl F' on ⟨rem', asks', hr', ha', ?_, ?_⟩
  · rw [secs_snoc, e1', e1]
    show _ = secRem fo (secs fo x P).1 (secs fo x P).2.isEmpty
    rw [← e2]; simp
  · rw [secs_snoc, e2', e2]; rfl
theorem cross_len (l1 l2 : List Nat) : (cross l1 l2).length = l1.length * l2.length := by
  unfold cross
  induction l1 with
  | nil => simp
  | cons a l ih => rw [List.flatMap_cons, List.length_append, ih, List.length_map, List.length_cons, Nat.succ_mul]; omega
theorem cross_snoc (l1 l2 : List Nat) (a : Nat) : cross (l1 ++ [a]) l2 = cross l1 l2 ++ l2.map fun b => (a, b) := by
  unfold cross; rw [List.flatMap_append]; simp

end
local macro_rules | `(tactic| kd_in) => `(tactic| first | with_reducible assumption | with_reducible exact Inst.any (by with_reducible assumption) | exact SInst.up (by assumption) (by assumption))
local macro_rules | `(tactic| kd_in) => `(tactic| first | with_reducible assumption | with_reducible exact Inst.any (by with_reducible assumption) | exact Inst.any (Inst.le (by with_reducible assumption) (by kbe_bound)) | exact SInst.up (by assumption) (by assumption))
local macro_rules | `(tactic| walk_at "eval Name") => `(tactic| k_dflt (first
  | refine x_cellL (by with_reducible assumption) (by assumption) (by dl_there) (by assumption) ?_
  | refine x_loc (by assumption) (by dl_step) ?_
  | refine x_glob (by assumption) (by assumption) (by kas_types) ?_
  | refine x_bi (by assumption) (by assumption) (by kba_ints) (by kat_tups) (by decide) ?_
  | refine x_cellC (by rfl) (by assumption) (by dl_there) (by assumption) ?_))
local macro_rules | `(tactic| dl_mem) => `(tactic| first | with_reducible assumption | with_reducible exact put_self _ _ _ | ((with_reducible refine' (put_other _ _ ?hne).trans ?hh); (case hh => dl_mem); (case hne => decide)))
local macro_rules | `(tactic| dl_there) => `(tactic| first | with_reducible assumption | (with_reducible apply At.ofV; dl_mem) | with_reducible exact At.ofB (by assumption))
local macro_rules | `(tactic| walk_at "storeName") => `(tactic| k_dflt (first | (refine e_stC (by assumption) (by with_reducible assumption) (by dl_mem) (by assumption) ?_; intro o' s' hd' F') | (refine e_st (by assumption) ?_; intro s' F')))
local macro_rules | `(tactic| dl_step) => `(tactic| first | with_reducible assumption | (with_reducible refine' (if_neg ?hn).trans ?hh; (case hh => dl_step); (case hn => decide)) | rfl)
local macro_rules | `(tactic| walk_at "eval ListComp") => `(tactic| k_dflt (refine x_ListComp ?_))
local macro_rules | `(tactic| walk_at "exec Assign cons DictComp") => `(tactic| k_dflt (refine x_AssignDictComp ?_))
local macro_rules | `(tactic| walk_at "compTests'") => `(tactic| k_dflt (first | (refine ts_nil ?_; simp only [if_true]) | (refine ts_cons ?_)))
local macro_rules | `(tactic| walk_at "exec Assign cons Tuple") => `(tactic| k_dflt (refine x_AssignTuple ?_))
local macro_rules | `(tactic| walk_at "assign Tuple") => `(tactic| k_dflt (refine unpack2 (by assumption) (by first | exact Lv.h (by assumption) | exact Lv.h (Lv.deeper (by assumption))) (by first | with_reducible assumption | with_reducible exact vput_self _ _ _) ?_; intro s' F'))
local macro_rules | `(tactic| kbe_in) => `(tactic| first | with_reducible assumption | exact DomOK.le (by kbe_in) (vput_le (by with_reducible assumption)))
local macro_rules | `(tactic| kba_in) => `(tactic| first | with_reducible assumption | exact GIs.le (by kba_in) (vput_le (by with_reducible assumption)))
local macro_rules | `(tactic| walk_at "compareOp In ref ref") => `(tactic| k_dflt (refine in_graphT (by assumption) (by assumption) (by kd_p) (by first | with_reducible assumption | with_reducible exact vput_self _ _ _) (by dl_there) (by with_reducible assumption) (by with_reducible assumption) (by kbe_in) (by kba_in) ?_; intro s' F'))
local macro_rules | `(tactic| walk_at "compareOp NotIn ref ref") => `(tactic| k_dflt (refine notin_graphT (by assumption) (by assumption) (by kd_p) (by first | with_reducible assumption | with_reducible exact vput_self _ _ _) (by dl_there) (by with_reducible assumption) (by with_reducible assumption) (by kbe_in) (by kba_in) ?_; intro s' F'))
local macro_rules | `(tactic| kbe_bound) => `(tactic| first | with_reducible assumption | with_reducible exact View.le.refl _ | exact View.le.trans (by kbe_bound) (vput_le (by with_reducible assumption)))
local macro_rules | `(tactic| walk_at "exec Assign cons Attribute") => `(tactic| k_dflt (refine plainObj_wpAny_Assign_Attribute ?_))
section
section
variable {prog : Program} {w : World} {A : Around} {E : Value → Shared → Prop} {s₀ s : Shared} {R Z B : View} {V : Dyn} {L tl ca al fi : Addr} {m mg mb : Str → Option Value} {k n kt kc : Nat} {D : Dom} {fo : Bool} {cons : List (Addr × Con)}
set_option maxHeartbeats 8000000 in
theorem c_tc {Q : Value → Shared → Prop} (F : St s₀ R Z B V L m s) (Cc : Cx w mg mb Z) (hD : DomOK D B) (hI : InferOK w mg mb D fo fi al n B) (hA : Lv (n + 20) A) (ht : B tl = some (listO (idsV D) kt)) (hc : B ca = some (listO (cons.map aval) kc)) (hcons : ∀ p ∈ cons, IsCon D B p.1 p.2) (hlen : cons.length ≤ 8) (aS : AskSt B V al [])
    (h : ∀ B' V' s' t g du dl G lo up asks, B.le B' → St s₀ R Z B' V' L m s' → Only [1, 2, 3, 4, 5, 6, 8, 9] V V' → B' t = some (tupO [.ref g, .ref dl, .ref du]) → (∃ kg, V' (1, 0) = some (g, listO (List.map aval G) kg)) → GIs D B' G →
      RowsAt D V' 3 dl lo → RowsAt D V' 2 du up → AskSt B' V' al asks → Run fo D.n (start D.n (cons.map (·.2))) (csOf G lo up [] asks) → asks.length ≤ 180 → Q (.ref t) s') : wpAny (model prog w) A (call (.ref 404) [.ref tl, .ref ca, .ref fi]) Q E s := by
  refine call_fnC (binds := [("tvars", .ref tl), ("constraints", .ref ca), ("infer_constraints", .ref fi)]) 5 F Cc hA rfl (by kernel_rfl) (BindsTo.of_eq rfl) ?_ (by decide) (fun R' L' s' rows hr F' Cc' back look => ?_)
  · intro n x hx
    simp only [List.mem_cons, List.not_mem_nil, or_false] at hx
    rcases hx with rfl | rfl | rfl
    · exact .inr ⟨rfl, rfl⟩
    · exact .inl rfl
    · exact .inl rfl
  obtain ⟨hr0, hr⟩ := hr
  obtain ⟨o0, r0, hd0⟩ := hr 0 _ _ rfl
  obtain ⟨o1, r1, hd1⟩ := hr 1 _ _ rfl
  obtain ⟨o2, r2, hd2⟩ := hr 2 _ _ rfl
  obtain ⟨o3, r3, hd3⟩ := hr 3 _ _ rfl
  have lk0 := look 0 _ _ rfl
  have lk1 := look 1 _ _ rfl
  have lk2 := look 2 _ _ rfl
  have lk3 := look 3 _ _ rfl
  clear look
  replace hd3 : o3.data = .cell (some (.ref tl)) := hd3
  have er := four (show rows.length = 4 from hr0) r0 r1 r2 r3
  subst er
  rw [rowsV4] at F'
  change St _ _ _ _ _ _ (fun y => if y = Str.ofString "infer_constraints" then some (Value.ref fi) else if y = Str.ofString "constraints" then some (Value.ref ca) else none) _ at F'
  clear hr r0 r1 r2 r3 hr0 F
  have hlenI : (idsV D).length = D.n := by unfold idsV; simp
  have hcnt : (idsV D).length ≤ 5 := by rw [hlenI]; exact hD.n5
  have hfi : ∀ j, j < (idsV D).length → IsId B (D.id j) j := fun j hj => hD.id j (by rw [hlenI] at hj; exact hj)
  repeat walk1
  refine dc_asg 2 D.id F' Cc' (Src.list (by exact hA.h) (At.ofB ht)) hcnt (by kd_p) hfi (fun V' _ => At.ofB ht) (fun j v h => (ids_at h).2) fun du rows2 ep2 s₁ hr2 F₁ => ?_
  have RU := rows_init (V := ((((V.put (5, 0) (L' + 1 + 1 + 1 + 1, o0)).put (5, 1) (L' + 1 + 1 + 1, o1)).put (5, 2) (L' + 1 + 1, o2)).put (5, 3) (L' + 1, o3))) (c := 2) (d := du) (ep := ep2) (hr2.trans hlenI) hD.n5
  have on1 := rows_only (D := D) (V := ((((V.put (5, 0) (L' + 1 + 1 + 1 + 1, o0)).put (5, 1) (L' + 1 + 1 + 1, o1)).put (5, 2) (L' + 1 + 1, o2)).put (5, 3) (L' + 1, o3))) (c := 2) (d := du) (rows := rows2) (ep := ep2)
  generalize hV1 : ((rowsV ((((V.put (5, 0) (L' + 1 + 1 + 1 + 1, o0)).put (5, 1) (L' + 1 + 1 + 1, o1)).put (5, 2) (L' + 1 + 1, o2)).put (5, 3) (L' + 1, o3)) 2 (rows2.map fun a => (a, listO [] 0))).put (2, 100) (du, dictD D.id (rows2.map .ref) ep2)) = V1 at F₁ RU on1
  have c0 : V1 (5, 0) = some (L' + 1 + 1 + 1 + 1, o0) := on1 _ (by decide)
  have c1 : V1 (5, 1) = some (L' + 1 + 1 + 1, o1) := on1 _ (by decide)
  have c2 : V1 (5, 2) = some (L' + 1 + 1, o2) := on1 _ (by decide)
  have c3 : V1 (5, 3) = some (L' + 1, o3) := on1 _ (by decide)
  have onV : Only [2, 5] V V1 := ((((Only.refl _ V).put (by decide) _).put (by decide) _).put (by decide) _).put (by decide) _ |>.trans (on1.mono (by decide))
  clear F' on1 hV1
  repeat walk1
  refine dc_asg 3 D.id F₁ Cc' (Src.list (by exact hA.h) (At.ofB ht)) hcnt (by kd_p) hfi (fun V' _ => At.ofB ht) (fun j v h => (ids_at h).2) fun dl rows3 ep3 s₂ hr3 F₂ => ?_
  have RL := rows_init (V := V1) (c := 3) (d := dl) (ep := ep3) (hr3.trans hlenI) hD.n5
  have on2 := rows_only (D := D) (V := V1) (c := 3) (d := dl) (rows := rows3) (ep := ep3)
  generalize hV2 : ((rowsV V1 3 (rows3.map fun a => (a, listO [] 0))).put (3, 100) (dl, dictD D.id (rows3.map .ref) ep3)) = V2 at F₂ RL on2
  replace c0 : V2 (5, 0) = some (L' + 1 + 1 + 1 + 1, o0) := (on2 _ (by decide)).trans c0
  replace c1 : V2 (5, 1) = some (L' + 1 + 1 + 1, o1) := (on2 _ (by decide)).trans c1
  replace c2 : V2 (5, 2) = some (L' + 1 + 1, o2) := (on2 _ (by decide)).trans c2
  replace c3 : V2 (5, 3) = some (L' + 1, o3) := (on2 _ (by decide)).trans c3
  replace RU := RU.only on2 (by decide)
  replace onV := (onV.mono (l' := [2, 3, 5]) (by decide)).trans (on2.mono (by decide))
  clear F₁ on2 hV2 
  clear V1
  repeat walk1
  refine lc_none (i := (1, 0)) (Out := OutP D fun j => [(j, j)]) F₂ (Src.list (by exact hA.h) (At.ofB ht)) (loop1 (fun _ => True) (by rw [hlenI]; have := hD.n5; simp [sizeLine]; omega) Cc' (fun B' D ys n hl => At.ofB (hl _ _ ht)) OutP.mono trivial ?_) ?_
  · intro C Dd j v ys nn R₁ B₁ m₁ s₃ hj hP hl _ _ Cc₁ F₃
    obtain ⟨hjn, rfl⟩ := ids_at hP
    clear F₂
    repeat walk1
    rename_i t s₄ hBt F₄
    refine Leaf.mk ⟨_, _, vput_le hBt, ⟨[(t, (j, j))], rfl, rfl, fun p hp => ?_⟩, trivial, F₄⟩
    simp at hp; subst hp
    exact ⟨hjn, hjn, vput_self _ _ _⟩
  intro g B₃ zs kg s₃ hl₃ hcat F₃
  rw [hlenI] at hcat
  obtain ⟨G, rfl, hG, gi⟩ := cat_pairs hcat
  clear F₂
  repeat walk1
  rename_i og s₄ hdg F₄
  clear F₃
  have hD₃ := hD.le hl₃
  refine c_dedupC F₄ Cc' hD₃ (by kd_p) (hl₃ _ _ hc) (fun p hp => (hcons p hp).le hl₃) (by omega) fun ra V₅ s₅ rem F₅ on₅ rS er => ?_
  have hg₅ : V₅ (1, 0) = some (g, listO (G.map aval) kg) := (on₅ _ (by decide)).trans ((put_other _ _ (by decide)).trans (put_self _ _ _))
  have TC : TCs D al tl g du dl ra (L' + 1 + 1 + 1 + 1) (L' + 1 + 1 + 1) (L' + 1 + 1) (L' + 1) B₃ V₅ G (fun _ => []) (fun _ => []) rem [] := by
    have on3 : Only [1, 4, 5] V2 V₅ := (((Only.refl _ V2).put (by decide) _).put (by decide) _).trans (on₅.mono (by decide))
    refine ⟨hD₃, ⟨kg, hg₅⟩, gi, RU.only on3 (by decide), RL.only on3 (by decide), rS, ?_, ⟨o3, ?_, hd3⟩, ⟨og, (on₅ _ (by decide)).trans (put_self _ _ _), hdg⟩, ⟨o1, _, ?_, hd1⟩, ⟨o0, _, ?_, hd0⟩⟩
    · exact aS.le hl₃ ((on3 _ (by decide)).trans (onV _ (by decide)))
    · exact (on₅ _ (by decide)).trans ((put_other _ _ (by decide)).trans ((put_other _ _ (by decide)).trans c3))
    · exact (on₅ _ (by decide)).trans ((put_other _ _ (by decide)).trans ((put_other _ _ (by decide)).trans c1))
    · exact (on₅ _ (by decide)).trans ((put_other _ _ (by decide)).trans ((put_other _ _ (by decide)).trans c0))
  have onV5 : Only [1, 2, 3, 4, 5] V V₅ := (onV.mono (by decide)).trans ((((Only.refl _ V2).put (by decide) _).put (by decide) _).trans (on₅.mono (by decide)))
  clear F₄ on₅ c0 c1 c2 c3 RU RL onV
  have hstart : csOf G (fun _ => []) (fun _ => []) rem [] = start D.n (cons.map (·.2)) := by
    unfold csOf start
    rw [hG, er]
    congr 1
    generalize D.n = nn
    induction nn with
    | zero => rfl
    | succ nn ih => rw [List.range_succ, List.flatMap_append, ih, List.map_append]; rfl
  repeat walk1
  rename_i s₆ F₆
  clear F₅
  have hrl : rem.length ≤ 8 := by
    have h1 := congrArg List.length er
    have h2 := (dedup_sub (cons.map (·.2))).2
    rw [List.length_map] at h1 h2
    omega
  refine wpAny_While (while_leaf (fun k s' => ∃ B' V' m' G lo up rem asks, k = rem.length + (if asks = [] then 2 else 0) ∧ B₃.le B' ∧ St s₀ R' B B' V' L' m' s' ∧
      TCs D al tl g du dl ra (L' + 1 + 1 + 1 + 1) (L' + 1 + 1 + 1) (L' + 1 + 1) (L' + 1) B' V' G lo up rem asks ∧ Only [1, 2, 3, 4, 5, 6, 8, 9] V V' ∧
      (∀ S', Run fo D.n (csOf G lo up rem asks) S' → Run fo D.n (start D.n (cons.map (·.2))) S') ∧ asks.length + 18 * (rem.length + (if asks = [] then 2 else 0)) ≤ 180 ∧ G.length + 25 * (rem.length + (if asks = [] then 2 else 0)) ≤ 255 ∧
      m' (Str.ofString "infer_constraints") = some (.ref fi) ∧ m' (Str.ofString "uppers") = some (.ref du) ∧ m' (Str.ofString "lowers") = some (.ref dl) ∧ m' (Str.ofString "remaining") = some (.ref ra)) ?_ _
    ⟨B₃, V₅, _, G, _, _, rem, [], rfl, View.le.refl _, F₆, TC, onV5.mono (by decide), fun S' hS => hstart ▸ hS, by simp; omega, by have h1 := congrArg List.length hG; rw [flatMap_len1, List.length_map] at h1; have := hD.n5; simp; omega, rfl, rfl, rfl, rfl⟩)
  clear F₆ TC onV5 hstart rS er hg₅ hG gi hrl
  rintro kk s₇ ⟨B', V', m', G, lo, up, rem, asks, rfl, hl', F₇, TC, onV', hrun, hbound, hbG, hm1, hm2, hm3, hm4⟩
  obtain ⟨krm, hrV⟩ := TC.rem.v
  obtain ⟨kg, hgV⟩ := TC.gv
  obtain ⟨ot, htV, htd⟩ := TC.tv
  obtain ⟨og, hgrV, hgrd⟩ := TC.gr
  obtain ⟨ol, vl, hlwV, hlwd⟩ := TC.lw
  obtain ⟨ou, vu, hucV, hucd⟩ := TC.uc
  have hrl : (rem.map aval).length ≤ 1000 := by rw [List.length_map]; omega
  clear hd1 hd2 hd3 hdg hd0
  repeat walk1
  · rename_i hemp t' s₈ hBt F₈
    have hr0 : rem = [] := by
      cases rem with
      | nil => rfl
      | cons a l => simp at hemp
    subst hr0
    refine h _ _ _ t' g du dl G lo up asks (hl₃.trans (hl'.trans (vput_le hBt))) (back _ _ _ _ F₈) onV' (vput_self _ _ _) ⟨kg, hgV⟩ (TC.gi.le (vput_le hBt)) TC.lo TC.up (TC.ask.le (vput_le hBt) rfl) (hrun _ (Run.done rfl)) (by omega)
  rename_i hemp
  have hne : rem ≠ [] := fun e => by subst e; simp at hemp
  obtain ⟨r, cx, rfl⟩ := last_of hne
  clear hemp hne
  have hcx := TC.rem.is cx (by simp)
  rw [List.map_append, List.map_singleton] at hrV
  have hrl : (r.map aval).length ≤ 1000 := by simp at hrl ⊢; omega
  clear F₇
  repeat walk1
  refine l_pop (by assumption) hrV (by rw [List.length_map] at hrl ⊢; simp [sizeLine]; omega) fun s₈ F₈ => ?_
  have on₈ : Only [4] V' (V'.put (4, 0) (ra, listO (r.map aval) (krm + 1))) := (Only.refl _ _).put (by decide) _
  have TC₈ := TC.only (View.le.refl _) (on₈.mono (by decide)) (rem' := r) ⟨⟨_, put_self _ _ _⟩, fun p hp => TC.rem.is p (by simp [hp])⟩ (TC.ask.le (View.le.refl _) (on₈ _ (by decide)))
  have hrun₈ : ∀ S', Run fo D.n (step fo D.n (csOf G lo up r asks) cx.2) S' → Run fo D.n (start D.n (cons.map (·.2))) S' := fun S' hS => hrun S' (Run.next (r := (csOf G lo up r asks).rem) (c := cx.2) (by simp [csOf]) hS)
  have onV₈ := onV'.trans (on₈.mono (l' := [1, 2, 3, 4, 5, 6, 8, 9]) (by decide))
  have hbound₈ : asks.length + 18 * (r.length + (if asks = [] then 2 else 0)) ≤ 162 := by
    have : (r ++ [cx]).length = r.length + 1 := by simp
    rw [this] at hbound; omega
  have hbG₈ : G.length + 25 * (r.length + (if asks = [] then 2 else 0)) ≤ 230 := by
    have : (r ++ [cx]).length = r.length + 1 := by simp
    rw [this] at hbG; omega
  generalize V'.put (4, 0) (ra, listO (r.map aval) (krm + 1)) = V₈ at F₈ on₈ TC₈ onV₈
  clear TC hrun onV' hbound hbG hgV htV hgrV hlwV hucV hrV htd hgrd hlwd hucd on₈ og
  obtain ⟨krm, hrV⟩ := TC₈.rem.v
  obtain ⟨kg, hgV⟩ := TC₈.gv
  obtain ⟨ot, htV, htd⟩ := TC₈.tv
  obtain ⟨og, hgrV, hgrd⟩ := TC₈.gr
  obtain ⟨ol, vl, hlwV, hlwd⟩ := TC₈.lw
  obtain ⟨ou, vu, hucV, hucd⟩ := TC₈.uc
  obtain ⟨x, a, sup, isv, q⟩ := cx
  obtain ⟨okc, tc, ic⟩ := hcx
  replace ic : SInst B' x 45 [(Str.ofString "type_var", .ref (D.id a)), (Str.ofString "op", .int (if sup then 1 else 0) tc), (Str.ofString "target", .ref (D.tgt isv q)), (Str.ofString "origin_type_var", .ref (D.var a))] := ic
  have hic : ∀ B'', B'.le B'' → SInst B'' x 45 [(Str.ofString "type_var", .ref (D.id a)), (Str.ofString "op", .int (if sup then 1 else 0) tc), (Str.ofString "target", .ref (D.tgt isv q)), (Str.ofString "origin_type_var", .ref (D.var a))] := fun B'' hl => ic.le hl
  have ha : a < D.n := okc.1
  have hx0 : aval ((x, a, sup, isv, q) : Addr × Con) = .ref x := rfl
  rw [hx0]
  repeat walk1
  refine wpAny_For ?_
  repeat walk1
  rename_i tb s₉ hBt F₉
  have hl₉ := hl'.trans (vput_le (o := tupO [.ref dl, .ref du]) hBt)
  have TC₉ := TC₈.leB (vput_le (o := tupO [.ref dl, .ref du]) hBt)
  have ic₉ := hic _ (vput_le (o := tupO [.ref dl, .ref du]) hBt)
  have htb : (B'.put tb (tupO [.ref dl, .ref du])) tb = some (tupO [.ref dl, .ref du]) := vput_self _ _ _
  have hlB₉ : B'.le (B'.put tb (tupO [.ref dl, .ref du])) := vput_le hBt
  generalize B'.put tb (tupO [.ref dl, .ref du]) = B₉ at F₉ hl₉ TC₉ ic₉ htb hlB₉
  clear ic TC₈ F₈ hl'
  refine for_src (fun j B'' V'' m'' => V'' = V₈ ∧ B'' = B₉ ∧ m'' (Str.ofString "c") = some (.ref x) ∧ m'' (Str.ofString "infer_constraints") = some (.ref fi) ∧ m'' (Str.ofString "uppers") = some (.ref du) ∧ m'' (Str.ofString "lowers") = some (.ref dl) ∧ m'' (Str.ofString "remaining") = some (.ref ra))
    F₉ (Src.tuple (by exact hA.h) htb) ⟨rfl, rfl, by dl_step, by dl_step, by dl_step, by dl_step, by dl_step⟩ ?_ ?_ ?_
  · rintro j B'' V'' m'' ⟨rfl, rfl, _⟩ _
    exact htb
  · rintro j v R₁ B'' V'' m'' s' hj hP hl ⟨rfl, rfl, hm0, hm1, hm2, hm3, hm4⟩ F₁₀
    have hv : v = .ref dl ∨ v = .ref du := by
      match j, hP with
      | 0, h => exact .inl (by simpa using h.symm)
      | 1, h => exact .inr (by simpa using h.symm)
    clear F₉
    rcases hv with rfl | rfl
    · repeat walk1
      refine row_notin (by assumption) Cc' (by kd_p) TC₉.ok TC₉.lo ha fun s₁₁ F₁₁ => ?_
      repeat walk1
      exact BodyEnd.next ⟨_, _, _, View.le.refl _, ⟨rfl, rfl, by dl_step, by dl_step, by dl_step, by dl_step, by dl_step⟩, F₁₁⟩
    · repeat walk1
      refine row_notin (by assumption) Cc' (by kd_p) TC₉.ok TC₉.up ha fun s₁₁ F₁₁ => ?_
      repeat walk1
      exact BodyEnd.next ⟨_, _, _, View.le.refl _, ⟨rfl, rfl, by dl_step, by dl_step, by dl_step, by dl_step, by dl_step⟩, F₁₁⟩
  rintro B'' V'' m'' s₁₀ hl₁₀ ⟨rfl, rfl, hm0, hm1, hm2, hm3, hm4⟩ F₁₀
  clear F₉ hl₁₀ htb hBt
  repeat walk1
  refine c_linear (c := (a, sup, isv, q)) F₁₀ Cc' TC₉.ok (by kd_p) ⟨okc, tc, ic₉⟩ fun tl₂ s₁₁ hBt F₁₁ => ?_
  replace F₁₁ : St s₀ R' B (B''.put tl₂ (tupO [.bool isv, if isv = true then .ref (D.id q) else .none])) V'' L' m'' s₁₁ := F₁₁
  have htl₂ : (B''.put tl₂ (tupO [.bool isv, if isv = true then .ref (D.id q) else .none])) tl₂ = some (tupO [.bool isv, if isv = true then .ref (D.id q) else .none]) := vput_self _ _ _
  have TC := TC₉.leB (vput_le (o := tupO [.bool isv, if isv = true then .ref (D.id q) else .none]) hBt)
  have ic := hic _ (hlB₉.trans (vput_le (o := tupO [.bool isv, if isv = true then .ref (D.id q) else .none]) hBt))
  have hl := hl₉.trans (vput_le (o := tupO [.bool isv, if isv = true then .ref (D.id q) else .none]) hBt)
  generalize B''.put tl₂ (tupO [.bool isv, if isv = true then .ref (D.id q) else .none]) = B₁ at F₁₁ htl₂ TC ic hl
  clear F₁₀ TC₉ ic₉ hl₉ hic hlB₉ hBt
  clear B''
  have ht₁ := (hl₃.trans hl) _ _ ht
  cases isv with
  | true =>
    have hq : q < D.n := okc.2.1 rfl
    simp only [if_true] at htl₂
    repeat walk1
    refine in_ids (by assumption) Cc' (by kd_p) TC.ok (At.ofB ht₁) hq fun s₁₂ F₁₂ => ?_
    clear F₁₁
    iterate 13 walk1
    dsimp only
    walk1
    refine wpAny_mono (Q := fun f s' => Leaf (f = .next ∧ ∃ B₂ V₂ m₂ o0 o1, B₁.le B₂ ∧ St s₀ R' B B₂ V₂ L' m₂ s' ∧ (∀ i, i ≠ (5, 0) → i ≠ (5, 1) → V₂ i = V'' i) ∧ V₂ (5, 0) = some (L' + 1 + 1 + 1 + 1, o0) ∧ o0.data = .cell (some (.ref (D.id (if sup then a else q)))) ∧
        V₂ (5, 1) = some (L' + 1 + 1 + 1, o1) ∧ o1.data = .cell (some (.ref (D.id (if sup then q else a)))) ∧
        m₂ (Str.ofString "infer_constraints") = some (.ref fi) ∧ m₂ (Str.ofString "uppers") = some (.ref du) ∧ m₂ (Str.ofString "lowers") = some (.ref dl) ∧ m₂ (Str.ofString "remaining") = some (.ref ra))) ?_ ?_ (fun _ _ e => e)
    · cases sup with
      | true =>
        repeat walk1
        rename_i tt sa hBt Fa sb Fb o1 sc hd1 Fc o0 sd hd0 Fd
        refine Leaf.mk ⟨rfl, _, _, _, o0, o1, vput_le hBt, Fd, ?_, by dl_mem, hd0, by dl_mem, hd1, by dl_step, by dl_step, by dl_step, by dl_step⟩
        intro i h0 h1
        rw [put_other _ _ h0, put_other _ _ h1]
      | false =>
        repeat walk1
        rename_i tt sa hBt Fa sb Fb o1 sc hd1 Fc o0 sd hd0 Fd
        refine Leaf.mk ⟨rfl, _, _, _, o0, o1, vput_le hBt, Fd, ?_, by dl_mem, hd0, by dl_mem, hd1, by dl_step, by dl_step, by dl_step, by dl_step⟩
        intro i h0 h1
        rw [put_other _ _ h0, put_other _ _ h1]
    rintro f s₁₃ ⟨rfl, B₂, V₂, m₂, o0, o1, hl₂, F₁₃, onc, h50, hd50, h51, hd51, hm1, hm2, hm3, hm4⟩
    have TC₂ := TC.cells hl₂ onc h50 hd50 h51 hd51
    dsimp only
    obtain ⟨lw, hlw⟩ : ∃ lw, lw = if sup then q else a := ⟨_, rfl⟩
    obtain ⟨uw, huw⟩ : ∃ uw, uw = if sup then a else q := ⟨_, rfl⟩
    rw [← hlw] at hd51
    rw [← huw] at hd50
    have hlwn : lw < D.n := by rw [hlw]; split <;> assumption
    have huwn : uw < D.n := by rw [huw]; split <;> assumption
    have hstep : step fo D.n (csOf G lo up r asks) (a, sup, true, q) = stepVar fo D.n (csOf G lo up r asks) lw uw := by
      subst hlw; subst huw; cases sup <;> rfl
    rw [hstep] at hrun₈
    have hl₃' := hl.trans hl₂
    have onV₂ : Only [1, 2, 3, 4, 5, 6, 8, 9] V V₂ := fun i hi => (onc i (fun e => hi (by rw [e]; decide)) (fun e => hi (by rw [e]; decide))).trans (onV₈ i hi)
    replace ht₁ := hl₂ _ _ ht₁
    clear hstep hlw huw ic htl₂ TC hl onc hgV hgrV hlwV hucV hrV htV htd hgrd hlwd hucd F₁₂ onV₈ okc ha hq hx0 hl₂
    obtain ⟨krm, hrV⟩ := TC₂.rem.v
    obtain ⟨kg, hgV⟩ := TC₂.gv
    obtain ⟨ot, htV, htd⟩ := TC₂.tv
    obtain ⟨og, hgrV, hgrd⟩ := TC₂.gr
    have gi := TC₂.gi
    have hD₂ := TC₂.ok
    repeat walk1
    · rename_i tt sa hBt Fa sb Fb hin
      have e : stepVar fo D.n (csOf G lo up r asks) lw uw = csOf G lo up r asks := by
        unfold stepVar
        rw [if_pos (by rw [← hin, Gm_mem]; rfl)]
      rw [e] at hrun₈
      refine Leaf.mk ⟨_, ?_, _, _, _, G, lo, up, r, asks, rfl, hl₃'.trans (vput_le hBt), Fb, TC₂.leB (vput_le hBt), onV₂, hrun₈, by omega, by omega, by dl_step, by dl_step, by dl_step, by dl_step⟩
      rw [List.length_append, List.length_singleton]; omega
    rename_i tt sa hBt Fa sb Fb hin
    clear Fa F₁₃
    replace hl₃' := hl₃'.trans (vput_le (o := tupO [.ref (D.id lw), .ref (D.id uw)]) hBt)
    replace TC₂ := TC₂.leB (vput_le (o := tupO [.ref (D.id lw), .ref (D.id uw)]) hBt)
    replace ht₁ := vput_le (o := tupO [.ref (D.id lw), .ref (D.id uw)]) hBt _ _ ht₁
    generalize B₂.put tt (tupO [.ref (D.id lw), .ref (D.id uw)]) = B₂' at Fb hl₃' TC₂ ht₁
    clear hBt gi hD₂
    clear B₂
    have gi := TC₂.gi
    have hD₂ := TC₂.ok
    walk1
    dsimp only
    walk1
    refine wpAny_AugAssign_Name ?_
    refine wpAny_loadName_cell rfl rfl (by with_reducible assumption) ⟨_, (Fb.v _ _ _ hgrV).1, hgrd⟩ ?_
    walk1
    walk1
    refine lc_none (i := (6, 0)) (Out := OutP D fun l => (List.range D.n).flatMap fun u => if mem (G.map (·.2)) l lw && mem (G.map (·.2)) uw u && !mem (G.map (·.2)) l u then [(l, u)] else []) Fb (Src.list (by exact hA.h) (At.ofB ht₁))
      (loop2 (Out' := fun B' l => OutP D (fun u => if mem (G.map (·.2)) l lw && mem (G.map (·.2)) uw u && !mem (G.map (·.2)) l u then [(l, u)] else []) B') (fun _ => True) (by rw [hlenI]; have := hD.n5; omega) (Cc'.le Fb.z) (fun B' D ys n hl => At.ofB (hl _ _ ht₁)) OutP.mono trivial ?_ ?_) ?_
    · rintro B' j zs ⟨G', rfl, hG', _⟩
      have h1 := congrArg List.length hG'
      rw [List.length_map] at h1
      rw [List.length_map]
      have h2 := flatMap_le D.n (fun u => if mem (G.map (·.2)) j lw && mem (G.map (·.2)) uw u && !mem (G.map (·.2)) j u then [(j, u)] else []) (fun u => by split <;> simp)
      have := hD.n5
      exact Nat.le_trans (Nat.le_of_eq h1) (Nat.le_trans h2 (by omega))
    · intro C Dd j v ys nn R₁ B₄ m₄ s₁₄ hj hP hl₄ _ _ Cc₁ F₁₄
      obtain ⟨hjn, rfl⟩ := ids_at hP
      clear Fb
      repeat walk1
      rename_i s₁₅ F₁₅
      refine Leaf.mk ⟨B₄, _, fun m => m (Str.ofString "l") = some (.ref (D.id j)), (idsV D).length, _, _, View.le.refl _, F₁₅, by dl_step, Src.list (by exact hA.h) (At.ofB (hl₄ _ _ ht₁)), by rw [hlenI]; have := hD.n5; omega, fun B' ys n hl => At.ofB (hl _ _ (hl₄ _ _ ht₁)), OutP.mono, fun B' zs hl hc => ?_, fun _ _ => trivial, ?_⟩
      · rw [hlenI] at hc
        obtain ⟨G', h1, h2, h3⟩ := cat_pairs hc
        exact ⟨G', h1, h2, h3⟩
      intro j' v' ys nn R₂ B₅ m₅ s₁₆ hj' hP' hl₅ hml F₁₆
      obtain ⟨hjn', rfl⟩ := ids_at hP'
      have gi₅ := gi.le (hl₄.trans hl₅)
      have hD₅ := hD₂.le (hl₄.trans hl₅)
      clear F₁₄ F₁₅
      repeat' walk1
      · refine leafP (by assumption) (by kbe_bound) ⟨[], rfl, (if_neg ?_).symm, by intro p hp; cases hp⟩ (by dl_step)
        rw [← Gm_mem, ← Gm_mem, ← Gm_mem, ‹Gm G j j' = true›]; simp
      · rename_i tt₂ _ hBt₂ _
        refine leafP (by assumption) (by kbe_bound) ⟨[(tt₂, (j, j'))], rfl, (if_pos ?_).symm, ?_⟩ (by dl_step)
        · rw [← Gm_mem, ← Gm_mem, ← Gm_mem, ‹Gm G j lw = true›, ‹Gm G uw j' = true›, ‹Gm G j j' = false›]; rfl
        · intro p hp
          simp at hp; subst hp
          exact ⟨hjn, hjn', vput_self _ _ _⟩
      · refine leafP (by assumption) (by kbe_bound) ⟨[], rfl, (if_neg ?_).symm, by intro p hp; cases hp⟩ (by dl_step)
        rw [← Gm_mem, ← Gm_mem, ← Gm_mem, ‹Gm G uw j' = false›]; simp
      · refine leafP (by assumption) (by kbe_bound) ⟨[], rfl, (if_neg ?_).symm, by intro p hp; cases hp⟩ (by dl_step)
        rw [← Gm_mem, ← Gm_mem, ← Gm_mem, ‹Gm G j lw = false›]; simp
    intro gl B₄ zs kl s₁₄ hl₄ hcat F₁₄
    rw [hlenI] at hcat
    obtain ⟨G₂, rfl, hG₂, gi₂⟩ := cat_pairs hcat
    have hG₂' : G₂.map (·.2) = pairsNew D.n (G.map (·.2)) lw uw := hG₂
    have hlG₂ : G₂.length ≤ 25 := by
      have h1 := congrArg List.length hG₂'
      rw [List.length_map] at h1
      rw [h1]; exact pairsNew_len _ _ _ _ hD.n5
    have hg6 : (V₂.put (6, 0) (gl, listO (G₂.map aval) kl)) (1, 0) = some (g, listO (G.map aval) kg) := (put_other _ _ (by decide)).trans hgV
    refine l_iadd F₁₄ hg6 (At.ofV (put_self _ _ _)) (by rw [List.length_map, List.length_map]; simp [sizeLine]; omega) fun kg₂ s₁₅ F₁₅ => ?_
    have hgr6 : ((V₂.put (6, 0) (gl, listO (G₂.map aval) kl)).put (1, 0) (g, listO (G.map aval ++ G₂.map aval) kg₂)) (5, 2) = some (L' + 1 + 1, og) := (put_other _ _ (by decide)).trans ((put_other _ _ (by decide)).trans hgrV)
    refine e_stC F₁₅ (by with_reducible assumption) hgr6 hgrd fun og₂ s₁₆ hogd F₁₆ => ?_
    have TC₃ := TC₂.graph (G' := G ++ G₂) (k := kg₂) (V' := ((V₂.put (6, 0) (gl, listO (G₂.map aval) kl)).put (1, 0) (g, listO (G.map aval ++ G₂.map aval) kg₂)).put (5, 2) (L' + 1 + 1, og₂)) hl₄
      (fun i h1 h2 => by
        rw [put_other _ _ h2, put_other _ _ (fun e => h1 (by rw [e]; decide)), put_other _ _ (fun e => h1 (by rw [e]; decide))])
      ((put_other _ _ (by decide)).trans ((put_self _ _ _).trans (by rw [List.map_append])))
      (fun p hp => (List.mem_append.mp hp).elim (fun h => (gi.le hl₄) p h) fun h => gi₂ p h) (put_self _ _ _) hogd
    have onV₃ : Only [1, 2, 3, 4, 5, 6, 8, 9] V (((V₂.put (6, 0) (gl, listO (G₂.map aval) kl)).put (1, 0) (g, listO (G.map aval ++ G₂.map aval) kg₂)).put (5, 2) (L' + 1 + 1, og₂)) := ((onV₂.put (by decide) _).put (by decide) _).put (by decide) _
    replace h50 : (((V₂.put (6, 0) (gl, listO (G₂.map aval) kl)).put (1, 0) (g, listO (G.map aval ++ G₂.map aval) kg₂)).put (5, 2) (L' + 1 + 1, og₂)) (5, 0) = some (L' + 1 + 1 + 1 + 1, o0) := (put_other _ _ (by decide)).trans ((put_other _ _ (by decide)).trans ((put_other _ _ (by decide)).trans h50))
    replace h51 : (((V₂.put (6, 0) (gl, listO (G₂.map aval) kl)).put (1, 0) (g, listO (G.map aval ++ G₂.map aval) kg₂)).put (5, 2) (L' + 1 + 1, og₂)) (5, 1) = some (L' + 1 + 1 + 1, o1) := (put_other _ _ (by decide)).trans ((put_other _ _ (by decide)).trans ((put_other _ _ (by decide)).trans h51))
    generalize ((V₂.put (6, 0) (gl, listO (G₂.map aval) kl)).put (1, 0) (g, listO (G.map aval ++ G₂.map aval) kg₂)).put (5, 2) (L' + 1 + 1, og₂) = V₃ at F₁₆ TC₃ onV₃ h50 h51
    have hnm : mem (G.map (·.2)) lw uw = false := by rw [← Gm_mem]; exact hin
    have hl₅ := hl₃'.trans hl₄
    replace ht₁ := hl₄ _ _ ht₁
    clear F₁₄ F₁₅ Fb hg6 hgr6 hgV hrV htV htd hgrV hgrd onV₂ gi gi₂ TC₂ hD₂ hcat hl₃' hin hG₂ hl₄
    clear V₂ B₂'
    obtain ⟨kg, hgV⟩ := TC₃.gv
    obtain ⟨ot, htV, htd⟩ := TC₃.tv
    obtain ⟨og, hgrV, hgrd⟩ := TC₃.gr
    have gi := TC₃.gi
    have hD₃ := TC₃.ok
    walk1
    refine wpAny_For ?_
    walk1
    obtain ⟨P', hP'⟩ : ∃ P', P' = (G ++ G₂).map (·.2) := ⟨_, rfl⟩
    refine for_ids (fun j B' V' m' => RowsAt D V' 3 dl ((List.range j).foldl (fun f u => if mem P' uw u then upd f u (dedup (f u ++ f lw)) else f) lo) ∧ Only [3, 6] V₃ V' ∧
      m' (Str.ofString "infer_constraints") = some (.ref fi) ∧ m' (Str.ofString "uppers") = some (.ref du) ∧ m' (Str.ofString "lowers") = some (.ref dl) ∧ m' (Str.ofString "remaining") = some (.ref ra))
      F₁₆ (by exact hA.h) ht₁ ⟨TC₃.lo, Only.refl _ _, by dl_step, by dl_step, by dl_step, by dl_step⟩ ?_ ?_
    · rintro j R₁ B₆ V₆ m₆ s₁₇ hj hl₆ ⟨hlo₆, on₆, hm1, hm2, hm3, hm4⟩ F₁₇
      have TC₆ := TC₃.rows hl₆ (on₆.mono (by decide)) (TC₃.up.only on₆ (by decide)) hlo₆
      clear F₁₆
      replace h50 := (on₆ _ (by decide)).trans h50
      replace h51 := (on₆ _ (by decide)).trans h51
      obtain ⟨kg, hgV⟩ := TC₆.gv
      obtain ⟨ot, htV, htd⟩ := TC₆.tv
      obtain ⟨og, hgrV, hgrd⟩ := TC₆.gr
      have gi := TC₆.gi
      have hD₆ := TC₆.ok
      generalize hfl : (List.range j).foldl (fun f u => if mem P' uw u then upd f u (dedup (f u ++ f lw)) else f) lo = lj at hlo₆ TC₆
      have hfl' : (List.range (j + 1)).foldl (fun f u => if mem P' uw u then upd f u (dedup (f u ++ f lw)) else f) lo = if mem P' uw j then upd lj j (dedup (lj j ++ lj lw)) else lj := by
        rw [List.range_succ, List.foldl_append, hfl]; rfl
      repeat' walk1
      · rename_i hcond
        refine sub_row (by assumption) Cc' (by kd_p) (by kbe_in) TC₆.lo hj fun a₁ k₁ s₁₈ ha₁ F₁₈ => ?_
        repeat walk1
        refine sub_row (by assumption) Cc' (by kd_p) (by kbe_in) TC₆.lo hlwn fun a₂ k₂ s₁₉ ha₂ F₁₉ => ?_
        have hl1 := TC₆.lo.len hj
        have hl2 := TC₆.lo.len hlwn
        refine l_add (6, 1) F₁₉ (At.ofV ha₁) (At.ofV ha₂) (by rw [List.length_map, List.length_map]; simp [sizeLine]; omega) fun b₁ s₂₀ hb₁ F₂₀ => ?_
        rw [← List.map_append] at F₂₀
        have hlt₁ : ∀ x ∈ lj j ++ lj lw, x < 3 := fun x hx => (List.mem_append.mp hx).elim (TC₆.lo.lt j hj x) (TC₆.lo.lt lw hlwn x)
        repeat walk1
        refine c_dedup (n := 1) (clsV D) (6, 0) F₂₀ Cc' (by kd_p) (At.ofV (put_self _ _ _)) (fun p => At.ofV ((put_other _ _ (by decide)).trans (put_self _ _ _))) (fun y hy x hx => EqT.cls (by kbe_in) (hlt₁ y hy) (hlt₁ x hx)) (by rw [List.length_append]; omega) fun b₂ k₃ s₂₁ hb₂ F₂₁ => ?_
        repeat walk1
        have on6 : Only [6] V₆ ((V₆.put (6, 1) (b₁, listO ((lj j ++ lj lw).map (clsV D)) 0)).put (6, 0) (b₂, listO ((dedup (lj j ++ lj lw)).map (clsV D)) k₃)) := ((Only.refl _ _).put (by decide) _).put (by decide) _
        refine row_set (i := (6, 0)) F₂₁ Cc' (by kd_p) (by kbe_in) (TC₆.lo.only on6 (by decide)) hj (put_self _ _ _) (by decide) (fun q hq => hlt₁ q ((dedup_sub _).1 q hq)) (dedup_nodup _) fun V₇ s₂₂ F₂₂ on₇ hrow₇ => ?_
        repeat walk1
        refine BodyEnd.next ⟨_, _, _, by kbe_bound, ⟨?_, (on₆.trans (on6.mono (by decide))).trans (on₇.mono (by decide)), by dl_step, by dl_step, by dl_step, by dl_step⟩, F₂₂⟩
        rw [hfl', if_pos (by rw [hP', ← Gm_mem]; exact hcond)]
        exact hrow₇
      · rename_i hcond
        refine BodyEnd.next ⟨_, _, _, ?_, ⟨?_, on₆, ?_, ?_, ?_, ?_⟩, (by assumption)⟩
        · kbe_bound
        · rw [hfl', if_neg (by rw [hP', ← Gm_mem, hcond]; exact Bool.false_ne_true)]
          exact hlo₆
        all_goals dl_step
    rintro B₇ V₇ m₇ s₁₈ hl₇ ⟨hlo₇, on₇, hm1, hm2, hm3, hm4⟩ F₁₈
    have TC₇ := TC₃.rows hl₇ (on₇.mono (by decide)) (TC₃.up.only on₇ (by decide)) hlo₇
    replace hl₅ := hl₅.trans hl₇
    replace onV₃ := onV₃.trans (on₇.mono (by decide))
    replace h50 := (on₇ _ (by decide)).trans h50
    replace h51 := (on₇ _ (by decide)).trans h51
    replace ht₁ := hl₇ _ _ ht₁
    generalize hlo' : (List.range D.n).foldl (fun f u => if mem P' uw u then upd f u (dedup (f u ++ f lw)) else f) lo = lo' at hlo₇ TC₇
    clear TC₃ on₇ F₁₆ gi hD₃ hgV htV htd hgrV hgrd hlo₇ hl₇ og ot
    clear B₄ V₃
    obtain ⟨kg, hgV⟩ := TC₇.gv
    obtain ⟨ot, htV, htd⟩ := TC₇.tv
    obtain ⟨og, hgrV, hgrd⟩ := TC₇.gr
    have gi := TC₇.gi
    have hD₃ := TC₇.ok
    dsimp only
    walk1
    refine wpAny_For ?_
    walk1
    refine for_ids (fun j B' V' m' => RowsAt D V' 2 du ((List.range j).foldl (fun f l => if mem P' l lw then upd f l (dedup (f l ++ f uw)) else f) up) ∧ Only [2, 6] V₇ V' ∧
      m' (Str.ofString "infer_constraints") = some (.ref fi) ∧ m' (Str.ofString "uppers") = some (.ref du) ∧ m' (Str.ofString "lowers") = some (.ref dl) ∧ m' (Str.ofString "remaining") = some (.ref ra))
      F₁₈ (by exact hA.h) ht₁ ⟨TC₇.up, Only.refl _ _, hm1, hm2, hm3, hm4⟩ ?_ ?_
    · rintro j R₁ B₆ V₆ m₆ s₁₇ hj hl₆ ⟨hlo₆, on₆, hm1, hm2, hm3, hm4⟩ F₁₇
      have TC₆ := TC₇.rows hl₆ (on₆.mono (by decide)) hlo₆ (TC₇.lo.only on₆ (by decide))
      clear F₁₈
      replace h50 := (on₆ _ (by decide)).trans h50
      replace h51 := (on₆ _ (by decide)).trans h51
      obtain ⟨kg, hgV⟩ := TC₆.gv
      obtain ⟨ot, htV, htd⟩ := TC₆.tv
      obtain ⟨og, hgrV, hgrd⟩ := TC₆.gr
      have gi := TC₆.gi
      have hD₆ := TC₆.ok
      generalize hfl : (List.range j).foldl (fun f l => if mem P' l lw then upd f l (dedup (f l ++ f uw)) else f) up = lj at hlo₆ TC₆
      have hfl' : (List.range (j + 1)).foldl (fun f l => if mem P' l lw then upd f l (dedup (f l ++ f uw)) else f) up = if mem P' j lw then upd lj j (dedup (lj j ++ lj uw)) else lj := by
        rw [List.range_succ, List.foldl_append, hfl]; rfl
      repeat' walk1
      · rename_i hcond
        refine sub_row (by assumption) Cc' (by kd_p) (by kbe_in) TC₆.up hj fun a₁ k₁ s₁₈ ha₁ F₁₈ => ?_
        repeat walk1
        refine sub_row (by assumption) Cc' (by kd_p) (by kbe_in) TC₆.up huwn fun a₂ k₂ s₁₉ ha₂ F₁₉ => ?_
        have hl1 := TC₆.up.len hj
        have hl2 := TC₆.up.len huwn
        refine l_add (6, 1) F₁₉ (At.ofV ha₁) (At.ofV ha₂) (by rw [List.length_map, List.length_map]; simp [sizeLine]; omega) fun b₁ s₂₀ hb₁ F₂₀ => ?_
        rw [← List.map_append] at F₂₀
        have hlt₁ : ∀ x ∈ lj j ++ lj uw, x < 3 := fun x hx => (List.mem_append.mp hx).elim (TC₆.up.lt j hj x) (TC₆.up.lt uw huwn x)
        repeat walk1
        refine c_dedup (n := 1) (clsV D) (6, 0) F₂₀ Cc' (by kd_p) (At.ofV (put_self _ _ _)) (fun p => At.ofV ((put_other _ _ (by decide)).trans (put_self _ _ _))) (fun y hy x hx => EqT.cls (by kbe_in) (hlt₁ y hy) (hlt₁ x hx)) (by rw [List.length_append]; omega) fun b₂ k₃ s₂₁ hb₂ F₂₁ => ?_
        repeat walk1
        have on6 : Only [6] V₆ ((V₆.put (6, 1) (b₁, listO ((lj j ++ lj uw).map (clsV D)) 0)).put (6, 0) (b₂, listO ((dedup (lj j ++ lj uw)).map (clsV D)) k₃)) := ((Only.refl _ _).put (by decide) _).put (by decide) _
        refine row_set (i := (6, 0)) F₂₁ Cc' (by kd_p) (by kbe_in) (TC₆.up.only on6 (by decide)) hj (put_self _ _ _) (by decide) (fun q hq => hlt₁ q ((dedup_sub _).1 q hq)) (dedup_nodup _) fun V₇ s₂₂ F₂₂ on₇ hrow₇ => ?_
        repeat walk1
        refine BodyEnd.next ⟨_, _, _, by kbe_bound, ⟨?_, (on₆.trans (on6.mono (by decide))).trans (on₇.mono (by decide)), by dl_step, by dl_step, by dl_step, by dl_step⟩, F₂₂⟩
        rw [hfl', if_pos (by rw [hP', ← Gm_mem]; exact hcond)]
        exact hrow₇
      · rename_i hcond
        refine BodyEnd.next ⟨_, _, _, ?_, ⟨?_, on₆, ?_, ?_, ?_, ?_⟩, (by assumption)⟩
        · kbe_bound
        · rw [hfl', if_neg (by rw [hP', ← Gm_mem, hcond]; exact Bool.false_ne_true)]
          exact hlo₆
        all_goals dl_step
    rintro B₈ V₈' m₈ s₁₉ hl₈ ⟨hup₈, on₈, hm1, hm2, hm3, hm4⟩ F₁₉
    have TC := TC₇.rows hl₈ (on₈.mono (by decide)) hup₈ (TC₇.lo.only on₈ (by decide))
    replace hl₅ := hl₅.trans hl₈
    replace onV₃ := onV₃.trans (on₈.mono (by decide))
    replace h50 := (on₈ _ (by decide)).trans h50
    replace h51 := (on₈ _ (by decide)).trans h51
    generalize hup' : (List.range D.n).foldl (fun f l => if mem P' l lw then upd f l (dedup (f l ++ f uw)) else f) up = up' at hup₈ TC
    clear TC₇ on₈ F₁₈ gi hD₃ hgV htV htd hgrV hgrd hup₈ hl₈ og ot ht₁
    clear B₇ V₇
    have hD₄ := TC.ok
    dsimp only
    walk1
    refine wpAny_For ?_
    repeat walk1
    refine sub_row (by assumption) Cc' (by kd_p) (by kbe_in) TC.lo hlwn fun a₁ k₁ s₂₀ ha₁ F₂₀ => ?_
    have hlo3 := TC.lo.len hlwn
    have hup3 := TC.up.len huwn
    have hltlo := TC.lo.lt lw hlwn
    have hltup := TC.up.lt uw huwn
    have S0 : SecSt D B₈ V₈' ra al fo (r.map (·.2), asks.map (·.2)) [] := ⟨r, asks, TC.rem, TC.ask, rfl, rfl⟩
    have hb1 : (r.map (·.2)).length ≤ 1000 := by rw [List.length_map]; omega
    have hb2 : (asks.map (·.2)).length ≤ 1000 := by rw [List.length_map]; omega
    refine for_src (fun i B' V' m' => B₈.le B' ∧ SecSt D B' V' ra al fo (r.map (·.2), asks.map (·.2)) (cross ((lo' lw).take i) (up' uw)) ∧ Only [4, 8, 9] V₈' V' ∧
      m' (Str.ofString "infer_constraints") = some (.ref fi) ∧ m' (Str.ofString "uppers") = some (.ref du) ∧ m' (Str.ofString "lowers") = some (.ref dl) ∧ m' (Str.ofString "remaining") = some (.ref ra))
      F₂₀ (Src.list (by exact hA.h) (At.ofV ha₁)) ⟨View.le.refl _, by simpa [cross] using S0, Only.refl _ _, hm1, hm2, hm3, hm4⟩ ?_ ?_ ?_
    · rintro i B' V' m' ⟨_, _, on', _⟩ _
      exact At.ofV ((on' _ (by simp)).trans ha₁)
    · rintro i v R₁ B₉ V₉ m₉ s₂₁ hi hP hl₉ ⟨_, S₉, on₉, hm1, hm2, hm3, hm4⟩ F₂₁
      obtain ⟨lt, hlt, rfl⟩ : ∃ lt, (lo' lw)[i]? = some lt ∧ clsV D lt = v := by simpa using hP
      have hlt3 := hltlo lt (List.mem_of_getElem? hlt)
      have htk : (lo' lw).take (i + 1) = (lo' lw).take i ++ [lt] := by rw [List.take_add_one, hlt]; rfl
      have hti : ((lo' lw).take i).length ≤ 3 := Nat.le_trans (by simp; omega) hlo3
      clear F₂₀
      replace h50 := (on₉ _ (by decide)).trans h50
      replace h51 := (on₉ _ (by decide)).trans h51
      have hD₉ := hD₄.le hl₉
      have RU₉ := TC.up.only on₉ (by decide)
      have hclsV : clsV D lt = .ref (D.cls lt) := rfl
      rw [hclsV]
      repeat walk1
      refine wpAny_For ?_
      repeat walk1
      refine sub_row (by assumption) Cc' (by kd_p) hD₉ RU₉ huwn fun a₂ k₂ s₂₂ ha₂ F₂₂ => ?_
      refine for_src (fun j B' V' m' => B₉.le B' ∧ SecSt D B' V' ra al fo (r.map (·.2), asks.map (·.2)) (cross ((lo' lw).take i) (up' uw) ++ ((up' uw).take j).map fun b => (lt, b)) ∧ Only [4, 8, 9] V₉ V' ∧
        m' (Str.ofString "lt") = some (.ref (D.cls lt)) ∧ m' (Str.ofString "infer_constraints") = some (.ref fi) ∧ m' (Str.ofString "uppers") = some (.ref du) ∧ m' (Str.ofString "lowers") = some (.ref dl) ∧ m' (Str.ofString "remaining") = some (.ref ra))
        F₂₂ (Src.list (by exact hA.h) (At.ofV ha₂)) ⟨View.le.refl _, by simpa using S₉, Only.refl _ _, by dl_step, by dl_step, by dl_step, by dl_step, by dl_step⟩ ?_ ?_ ?_
      · rintro j B' V' m' ⟨_, _, on', _⟩ _
        exact At.ofV ((on' _ (by simp)).trans ha₂)
      · rintro j v R₂ Ba Va ma s₂₃ hj hP' hla ⟨_, Sa, ona, hm0, hm1, hm2, hm3, hm4⟩ F₂₃
        obtain ⟨ut, hut, rfl⟩ : ∃ ut, (up' uw)[j]? = some ut ∧ clsV D ut = v := by simpa using hP'
        have hut3 := hltup ut (List.mem_of_getElem? hut)
        have htj : (up' uw).take (j + 1) = (up' uw).take j ++ [ut] := by rw [List.take_add_one, hut]; rfl
        have hclsU : clsV D ut = .ref (D.cls ut) := rfl
        rw [hclsU]
        clear F₂₂ F₂₁
        repeat walk1
        rename_i s₂₄ F₂₄
        refine sec_step F₂₄ Cc' (by exact (hA.deeper).mono) (hD₉.le hla) (hI.le (((hl₃.trans hl₅).trans hl₉).trans hla)) Sa hb1 hb2 ?_ hlt3 hut3 fun Bb Vb s₂₅ hlb F₂₅ onb Sb => ?_
        · rw [List.length_append, cross_len, List.length_map]
          have : ((up' uw).take j).length ≤ 3 := Nat.le_trans (by simp; omega) hup3
          have : ((lo' lw).take i).length * (up' uw).length ≤ 3 * 3 := Nat.mul_le_mul hti hup3
          omega
        repeat walk1
        refine BodyEnd.next ⟨Bb, Vb, _, hlb, ⟨hla.trans hlb, ?_, ona.trans onb, by dl_step, by dl_step, by dl_step, by dl_step, by dl_step⟩, F₂₅⟩
        rw [htj, List.map_append, ← List.append_assoc]
        exact Sb
      · rintro Ba Va ma s₂₃ hla ⟨_, Sa, ona, hm0, hm1, hm2, hm3, hm4⟩ F₂₃
        have hle : (List.map (clsV D) (up' uw)).length = (up' uw).length := List.length_map _
        rw [hle, List.take_length] at Sa
        dsimp only
        repeat walk1
        refine BodyEnd.next ⟨Ba, Va, _, hla, ⟨hl₉.trans hla, ?_, on₉.trans ona, hm1, hm2, hm3, hm4⟩, F₂₃⟩
        rw [htk, cross_snoc]
        exact Sa
    · rintro Bz Vz mz s₂₁ hlz ⟨_, Sz, onz, hm1, hm2, hm3, hm4⟩ F₂₁
      have hle : (List.map (clsV D) (lo' lw)).length = (lo' lw).length := List.length_map _
      rw [hle, List.take_length] at Sz
      dsimp only
      repeat walk1
      obtain ⟨rem', asks', hr', ha', e1, e2⟩ := Sz.ex
      have hf := secs_facts fo (r.map (·.2), asks.map (·.2)) (cross (lo' lw) (up' uw))
      have hcl : (cross (lo' lw) (up' uw)).length ≤ 9 := by rw [cross_len]; exact Nat.mul_le_mul hlo3 hup3
      have l1 : rem'.length = (secs fo (r.map (·.2), asks.map (·.2)) (cross (lo' lw) (up' uw))).1.length := by rw [← e1, List.length_map]
      have l2 : asks'.length = (secs fo (r.map (·.2), asks.map (·.2)) (cross (lo' lw) (up' uw))).2.length := by rw [← e2, List.length_map]
      have hE' : (if asks' = [] then 2 else 0) = (if (secs fo (r.map (·.2), asks.map (·.2)) (cross (lo' lw) (up' uw))).2 = [] then 2 else 0) := by rw [← e2]; simp
      have hE : (if asks = [] then 2 else 0) = (if asks.map (·.2) = [] then 2 else 0) := by simp
      have hms : rem'.length + (if asks' = [] then 2 else 0) ≤ r.length + (if asks = [] then 2 else 0) := by
        have h := hf.2.1
        rw [hE', hE, l1]
        simpa using h
      have has : asks'.length = asks.length + 2 * (cross (lo' lw) (up' uw)).length := by
        rw [l2, hf.1]; simp
      have hst : stepVar fo D.n (csOf G lo up r asks) lw uw = csOf (G ++ G₂) lo' up' rem' asks' := by
        unfold stepVar
        rw [if_neg (by rw [show (csOf G lo up r asks).P = G.map (·.2) from rfl, hnm]; exact Bool.false_ne_true)]
        have hPP : G.map (·.2) ++ pairsNew D.n (G.map (·.2)) lw uw = P' := by rw [hP', List.map_append, hG₂']
        show CS.withSecs ⟨G.map (·.2) ++ pairsNew D.n (G.map (·.2)) lw uw, foldLo D.n (G.map (·.2) ++ pairsNew D.n (G.map (·.2)) lw uw) lw uw lo, foldUp D.n (G.map (·.2) ++ pairsNew D.n (G.map (·.2)) lw uw) lw uw up, r.map (·.2), asks.map (·.2)⟩ fo
          (cross (foldLo D.n (G.map (·.2) ++ pairsNew D.n (G.map (·.2)) lw uw) lw uw lo lw) (foldUp D.n (G.map (·.2) ++ pairsNew D.n (G.map (·.2)) lw uw) lw uw up uw)) = _
        rw [hPP, show foldLo D.n P' lw uw lo = lo' from hlo', show foldUp D.n P' lw uw up = up' from hup']
        unfold CS.withSecs csOf
        rw [← hP', e1, e2]
      rw [hst] at hrun₈
      refine Leaf.mk ⟨_, ?_, Bz, Vz, _, G ++ G₂, lo', up', rem', asks', rfl, hl₅.trans hlz, F₂₁, TC.only hlz (onz.mono (by decide)) hr' ha', onV₃.trans (onz.mono (by decide)), hrun₈, by omega, by rw [List.length_append]; omega, hm1, hm2, hm3, hm4⟩
      rw [List.length_append, List.length_singleton]; omega
  | false =>
    have hq : q < 3 := okc.2.2 rfl
    replace htl₂ : B₁ tl₂ = some (tupO [.bool false, .none]) := htl₂
    replace ic : SInst B₁ x 45 [(Str.ofString "type_var", .ref (D.id a)), (Str.ofString "op", .int (if sup then 1 else 0) tc), (Str.ofString "target", .ref (D.cls q)), (Str.ofString "origin_type_var", .ref (D.var a))] := ic
    have gi := TC.gi
    have hD₁ := TC.ok
    cases sup with
    | false =>
      repeat walk1
      refine sub_row (by assumption) Cc' (by kd_p) hD₁ TC.up ha fun a₁ k₁ s₁₂ ha₁ F₁₂ => ?_
      have he₁ : Eqs w mg mb B₁ 1 (.ref (D.cls q)) ((up a).map (clsV D)) ((up a).map (· == q)) := Eqs.of (clsV D) (· == q) _ fun y hy => EqT.cls hD₁ (TC.up.lt a ha y hy) hq
      refine in_list F₁₂ Cc' (by kd_p) (At.ofV ha₁) he₁ fun s₁₃ F₁₃ => ?_
      have e : (List.map (fun x => x == q) (up a)).any id = (up a).any (· == q) := by rw [List.any_map]; rfl
      rw [e]
      clear F₁₂ F₁₁ he₁
      repeat' walk1
      · rename_i hin
        dsimp only
        have e : step fo D.n (csOf G lo up r asks) (a, false, false, q) = csOf G lo up r asks := by
          show stepSub fo D.n (csOf G lo up r asks) a q = _
          unfold stepSub
          rw [if_pos (by exact hin)]
        rw [e] at hrun₈
        refine Leaf.mk ⟨_, ?_, _, _, _, G, lo, up, r, asks, rfl, hl, F₁₃, TC, onV₈, hrun₈, by omega, by omega, by dl_step, by dl_step, by dl_step, by dl_step⟩
        rw [List.length_append, List.length_singleton]; omega
      rename_i hin
      repeat walk1
      refine wpAny_For ?_
      repeat walk1
      refine for_ids (fun j B' V' m' => RowsAt D V' 2 du ((List.range j).foldl (fun f l => if mem (G.map (·.2)) l a then upd f l (putn (f l) q) else f) up) ∧ Only [2] V'' V' ∧
        m' (Str.ofString "c") = some (.ref x) ∧ m' (Str.ofString "infer_constraints") = some (.ref fi) ∧ m' (Str.ofString "uppers") = some (.ref du) ∧ m' (Str.ofString "lowers") = some (.ref dl) ∧ m' (Str.ofString "remaining") = some (.ref ra))
        F₁₃ (by exact hA.h) ht₁ ⟨TC.up, Only.refl _ _, by dl_step, by dl_step, by dl_step, by dl_step, by dl_step⟩ ?_ ?_
      · rintro j R₁ B₆ V₆ m₆ s₁₇ hj hl₆ ⟨hlo₆, on₆, hm0, hm1, hm2, hm3, hm4⟩ F₁₇
        have TC₆ := TC.rows hl₆ (on₆.mono (by decide)) hlo₆ (TC.lo.only on₆ (by decide))
        have ic₆ : SInst B₆ x 45 [(Str.ofString "type_var", .ref (D.id a)), (Str.ofString "op", .int (if false = true then 1 else 0) tc), (Str.ofString "target", .ref (D.cls q)), (Str.ofString "origin_type_var", .ref (D.var a))] := ic.le hl₆
        clear F₁₃ ic
        obtain ⟨kg, hgV⟩ := TC₆.gv
        obtain ⟨ot, htV, htd⟩ := TC₆.tv
        obtain ⟨og, hgrV, hgrd⟩ := TC₆.gr
        have gi := TC₆.gi
        have hD₆ := TC₆.ok
        generalize hfl : (List.range j).foldl (fun f l => if mem (G.map (·.2)) l a then upd f l (putn (f l) q) else f) up = lj at hlo₆ TC₆
        have hfl' : (List.range (j + 1)).foldl (fun f l => if mem (G.map (·.2)) l a then upd f l (putn (f l) q) else f) up = if mem (G.map (·.2)) j a then upd lj j (putn (lj j) q) else lj := by
          rw [List.range_succ, List.foldl_append, hfl]; rfl
        repeat' walk1
        · rename_i hcond
          refine sub_row (by assumption) Cc' (by kd_p) (by kbe_in) TC₆.up hj fun a₂ k₂ s₁₈ ha₂ F₁₈ => ?_
          repeat walk1
          rename_i s₁₉ F₁₉
          refine row_put F₁₉ Cc' (by kd_p) (by kbe_in) TC₆.up hj hq ha₂ fun V₇ s₂₀ F₂₀ on₇ hrow₇ => ?_
          repeat walk1
          refine BodyEnd.next ⟨_, _, _, by kbe_bound, ⟨?_, on₆.trans on₇, by dl_step, by dl_step, by dl_step, by dl_step, by dl_step⟩, F₂₀⟩
          rw [hfl', if_pos (by rw [← Gm_mem]; exact hcond)]
          exact hrow₇
        · rename_i hcond
          refine BodyEnd.next ⟨_, _, _, ?_, ⟨?_, on₆, ?_, ?_, ?_, ?_, ?_⟩, (by assumption)⟩
          · kbe_bound
          · rw [hfl', if_neg (by rw [← Gm_mem, hcond]; exact Bool.false_ne_true)]
            exact hlo₆
          all_goals dl_step
      rintro B₇ V₇ m₇ s₁₈ hl₇ ⟨hup₇, on₇, hm0, hm1, hm2, hm3, hm4⟩ F₁₈
      have TC₇ := TC.rows hl₇ (on₇.mono (by decide)) hup₇ (TC.lo.only on₇ (by decide))
      have ic₇ : SInst B₇ x 45 [(Str.ofString "type_var", .ref (D.id a)), (Str.ofString "op", .int (if false = true then 1 else 0) tc), (Str.ofString "target", .ref (D.cls q)), (Str.ofString "origin_type_var", .ref (D.var a))] := ic.le hl₇
      have hl₈ := hl.trans hl₇
      have onV₇ := onV₈.trans (on₇.mono (by decide))
      generalize hup' : (List.range D.n).foldl (fun f l => if mem (G.map (·.2)) l a then upd f l (putn (f l) q) else f) up = up' at hup₇ TC₇
      clear F₁₃ ic gi hD₁ hgV htV htd hgrV hgrd htl₂ on₇ hup₇ ht₁
      have hD₇ := TC₇.ok
      dsimp only
      walk1
      refine wpAny_For ?_
      repeat walk1
      refine sub_row (by assumption) Cc' (by kd_p) hD₇ TC₇.lo ha fun a₂ k₂ s₁₉ ha₂ F₁₉ => ?_
      have hlo3 := TC₇.lo.len ha
      have hltlo := TC₇.lo.lt a ha
      have S0 : SecSt D B₇ V₇ ra al fo (r.map (·.2), asks.map (·.2)) [] := ⟨r, asks, TC₇.rem, TC₇.ask, rfl, rfl⟩
      have hb1 : (r.map (·.2)).length ≤ 1000 := by rw [List.length_map]; omega
      have hb2 : (asks.map (·.2)).length ≤ 1000 := by rw [List.length_map]; omega
      refine for_src (fun i B' V' m' => B₇.le B' ∧ SecSt D B' V' ra al fo (r.map (·.2), asks.map (·.2)) (((lo a).take i).map fun x => (x, q)) ∧ Only [4, 8, 9] V₇ V' ∧
        m' (Str.ofString "c") = some (.ref x) ∧ m' (Str.ofString "infer_constraints") = some (.ref fi) ∧ m' (Str.ofString "uppers") = some (.ref du) ∧ m' (Str.ofString "lowers") = some (.ref dl) ∧ m' (Str.ofString "remaining") = some (.ref ra))
        F₁₉ (Src.list (by exact hA.h) (At.ofV ha₂)) ⟨View.le.refl _, by simpa using S0, Only.refl _ _, hm0, hm1, hm2, hm3, hm4⟩ ?_ ?_ ?_
      · rintro i B' V' m' ⟨_, _, on', _⟩ _
        exact At.ofV ((on' _ (by simp)).trans ha₂)
      · rintro i v R₁ B₉ V₉ m₉ s₂₁ hi hP hl₉ ⟨_, S₉, on₉, hm0, hm1, hm2, hm3, hm4⟩ F₂₁
        obtain ⟨lt, hlt, rfl⟩ : ∃ lt, (lo a)[i]? = some lt ∧ clsV D lt = v := by simpa using hP
        have hlt3 := hltlo lt (List.mem_of_getElem? hlt)
        have htk : (lo a).take (i + 1) = (lo a).take i ++ [lt] := by rw [List.take_add_one, hlt]; rfl
        have hti : ((lo a).take i).length ≤ 3 := Nat.le_trans (by simp; omega) hlo3
        have ic₉ : SInst B₉ x 45 [(Str.ofString "type_var", .ref (D.id a)), (Str.ofString "op", .int (if false = true then 1 else 0) tc), (Str.ofString "target", .ref (D.cls q)), (Str.ofString "origin_type_var", .ref (D.var a))] := ic₇.le hl₉
        clear F₁₉ F₁₈ ic₇
        have hclsV : clsV D lt = .ref (D.cls lt) := rfl
        rw [hclsV]
        repeat walk1
        rename_i s₂₄ F₂₄
        refine sec_step F₂₄ Cc' (by exact (hA.deeper).mono) (hD₇.le hl₉) (hI.le ((hl₃.trans hl₈).trans hl₉)) S₉ hb1 hb2 (by rw [List.length_map]; omega) hlt3 hq fun Bb Vb s₂₅ hlb F₂₅ onb Sb => ?_
        repeat walk1
        refine BodyEnd.next ⟨Bb, Vb, _, hlb, ⟨hl₉.trans hlb, ?_, on₉.trans onb, by dl_step, by dl_step, by dl_step, by dl_step, by dl_step⟩, F₂₅⟩
        rw [htk, List.map_append]
        exact Sb
      · rintro Bz Vz mz s₂₁ hlz ⟨_, Sz, onz, hm0, hm1, hm2, hm3, hm4⟩ F₂₁
        have hle : (List.map (clsV D) (lo a)).length = (lo a).length := List.length_map _
        rw [hle, List.take_length] at Sz
        dsimp only
        repeat walk1
        obtain ⟨rem', asks', hr', ha', e1, e2⟩ := Sz.ex
        have hf := secs_facts fo (r.map (·.2), asks.map (·.2)) ((lo a).map fun x => (x, q))
        have hcl : ((lo a).map fun x => (x, q)).length ≤ 9 := by rw [List.length_map]; omega
        have l1 : rem'.length = (secs fo (r.map (·.2), asks.map (·.2)) ((lo a).map fun x => (x, q))).1.length := by rw [← e1, List.length_map]
        have l2 : asks'.length = (secs fo (r.map (·.2), asks.map (·.2)) ((lo a).map fun x => (x, q))).2.length := by rw [← e2, List.length_map]
        have hE' : (if asks' = [] then 2 else 0) = (if (secs fo (r.map (·.2), asks.map (·.2)) ((lo a).map fun x => (x, q))).2 = [] then 2 else 0) := by rw [← e2]; simp
        have hE : (if asks = [] then 2 else 0) = (if asks.map (·.2) = [] then 2 else 0) := by simp
        have hms : rem'.length + (if asks' = [] then 2 else 0) ≤ r.length + (if asks = [] then 2 else 0) := by
          have h := hf.2.1
          rw [hE', hE, l1]
          simpa using h
        have has : asks'.length = asks.length + 2 * ((lo a).map fun x => (x, q)).length := by
          rw [l2, hf.1]; simp
        have hst : step fo D.n (csOf G lo up r asks) (a, false, false, q) = csOf G lo up' rem' asks' := by
          show stepSub fo D.n (csOf G lo up r asks) a q = _
          unfold stepSub
          rw [if_neg (by rw [show (csOf G lo up r asks).up = up from rfl, hin]; exact Bool.false_ne_true)]
          show CS.withSecs ⟨G.map (·.2), lo, putUp D.n (G.map (·.2)) a q up, r.map (·.2), asks.map (·.2)⟩ fo ((lo a).map fun x => (x, q)) = _
          rw [show putUp D.n (G.map (·.2)) a q up = up' from hup']
          unfold CS.withSecs csOf
          rw [e1, e2]
        rw [hst] at hrun₈
        refine Leaf.mk ⟨_, ?_, Bz, Vz, _, G, lo, up', rem', asks', rfl, hl₈.trans hlz, F₂₁, TC₇.only hlz (onz.mono (by decide)) hr' ha', onV₇.trans (onz.mono (by decide)), hrun₈, by omega, by omega, hm1, hm2, hm3, hm4⟩
        rw [List.length_append, List.length_singleton]; omega
    | true =>
      repeat' walk1
      refine sub_row (by assumption) Cc' (by kd_p) hD₁ TC.lo ha fun a₁ k₁ s₁₂ ha₁ F₁₂ => ?_
      have he₁ : Eqs w mg mb B₁ 1 (.ref (D.cls q)) ((lo a).map (clsV D)) ((lo a).map (· == q)) := Eqs.of (clsV D) (· == q) _ fun y hy => EqT.cls hD₁ (TC.lo.lt a ha y hy) hq
      refine in_list F₁₂ Cc' (by kd_p) (At.ofV ha₁) he₁ fun s₁₃ F₁₃ => ?_
      have e : (List.map (fun x => x == q) (lo a)).any id = (lo a).any (· == q) := by rw [List.any_map]; rfl
      rw [e]
      clear F₁₂ F₁₁ he₁
      repeat' walk1
      · rename_i hin
        dsimp only
        have e : step fo D.n (csOf G lo up r asks) (a, true, false, q) = csOf G lo up r asks := by
          show stepSup fo D.n (csOf G lo up r asks) a q = _
          unfold stepSup
          rw [if_pos (by exact hin)]
        rw [e] at hrun₈
        refine Leaf.mk ⟨_, ?_, _, _, _, G, lo, up, r, asks, rfl, hl, F₁₃, TC, onV₈, hrun₈, by omega, by omega, by dl_step, by dl_step, by dl_step, by dl_step⟩
        rw [List.length_append, List.length_singleton]; omega
      rename_i hin
      repeat walk1
      refine wpAny_For ?_
      repeat walk1
      refine for_ids (fun j B' V' m' => RowsAt D V' 3 dl ((List.range j).foldl (fun f l => if mem (G.map (·.2)) a l then upd f l (putn (f l) q) else f) lo) ∧ Only [3] V'' V' ∧
        m' (Str.ofString "c") = some (.ref x) ∧ m' (Str.ofString "infer_constraints") = some (.ref fi) ∧ m' (Str.ofString "uppers") = some (.ref du) ∧ m' (Str.ofString "lowers") = some (.ref dl) ∧ m' (Str.ofString "remaining") = some (.ref ra))
        F₁₃ (by exact hA.h) ht₁ ⟨TC.lo, Only.refl _ _, by dl_step, by dl_step, by dl_step, by dl_step, by dl_step⟩ ?_ ?_
      · rintro j R₁ B₆ V₆ m₆ s₁₇ hj hl₆ ⟨hlo₆, on₆, hm0, hm1, hm2, hm3, hm4⟩ F₁₇
        have TC₆ := TC.rows hl₆ (on₆.mono (by decide)) (TC.up.only on₆ (by decide)) hlo₆
        have ic₆ : SInst B₆ x 45 [(Str.ofString "type_var", .ref (D.id a)), (Str.ofString "op", .int (if true = true then 1 else 0) tc), (Str.ofString "target", .ref (D.cls q)), (Str.ofString "origin_type_var", .ref (D.var a))] := ic.le hl₆
        clear F₁₃ ic
        obtain ⟨kg, hgV⟩ := TC₆.gv
        obtain ⟨ot, htV, htd⟩ := TC₆.tv
        obtain ⟨og, hgrV, hgrd⟩ := TC₆.gr
        have gi := TC₆.gi
        have hD₆ := TC₆.ok
        generalize hfl : (List.range j).foldl (fun f l => if mem (G.map (·.2)) a l then upd f l (putn (f l) q) else f) lo = lj at hlo₆ TC₆
        have hfl' : (List.range (j + 1)).foldl (fun f l => if mem (G.map (·.2)) a l then upd f l (putn (f l) q) else f) lo = if mem (G.map (·.2)) a j then upd lj j (putn (lj j) q) else lj := by
          rw [List.range_succ, List.foldl_append, hfl]; rfl
        repeat' walk1
        · rename_i hcond
          refine sub_row (by assumption) Cc' (by kd_p) (by kbe_in) TC₆.lo hj fun a₂ k₂ s₁₈ ha₂ F₁₈ => ?_
          repeat walk1
          rename_i s₁₉ F₁₉
          refine row_put F₁₉ Cc' (by kd_p) (by kbe_in) TC₆.lo hj hq ha₂ fun V₇ s₂₀ F₂₀ on₇ hrow₇ => ?_
          repeat walk1
          refine BodyEnd.next ⟨_, _, _, by kbe_bound, ⟨?_, on₆.trans on₇, by dl_step, by dl_step, by dl_step, by dl_step, by dl_step⟩, F₂₀⟩
          rw [hfl', if_pos (by rw [← Gm_mem]; exact hcond)]
          exact hrow₇
        · rename_i hcond
          refine BodyEnd.next ⟨_, _, _, ?_, ⟨?_, on₆, ?_, ?_, ?_, ?_, ?_⟩, (by assumption)⟩
          · kbe_bound
          · rw [hfl', if_neg (by rw [← Gm_mem, hcond]; exact Bool.false_ne_true)]
            exact hlo₆
          all_goals dl_step
      rintro B₇ V₇ m₇ s₁₈ hl₇ ⟨hup₇, on₇, hm0, hm1, hm2, hm3, hm4⟩ F₁₈
      have TC₇ := TC.rows hl₇ (on₇.mono (by decide)) (TC.up.only on₇ (by decide)) hup₇
      have ic₇ : SInst B₇ x 45 [(Str.ofString "type_var", .ref (D.id a)), (Str.ofString "op", .int (if true = true then 1 else 0) tc), (Str.ofString "target", .ref (D.cls q)), (Str.ofString "origin_type_var", .ref (D.var a))] := ic.le hl₇
      have hl₈ := hl.trans hl₇
      have onV₇ := onV₈.trans (on₇.mono (by decide))
      generalize hup' : (List.range D.n).foldl (fun f l => if mem (G.map (·.2)) a l then upd f l (putn (f l) q) else f) lo = lo' at hup₇ TC₇
      clear F₁₃ ic gi hD₁ hgV htV htd hgrV hgrd htl₂ on₇ hup₇ ht₁
      have hD₇ := TC₇.ok
      dsimp only
      walk1
      refine wpAny_For ?_
      repeat walk1
      refine sub_row (by assumption) Cc' (by kd_p) hD₇ TC₇.up ha fun a₂ k₂ s₁₉ ha₂ F₁₉ => ?_
      have hlo3 := TC₇.up.len ha
      have hltlo := TC₇.up.lt a ha
      have S0 : SecSt D B₇ V₇ ra al fo (r.map (·.2), asks.map (·.2)) [] := ⟨r, asks, TC₇.rem, TC₇.ask, rfl, rfl⟩
      have hb1 : (r.map (·.2)).length ≤ 1000 := by rw [List.length_map]; omega
      have hb2 : (asks.map (·.2)).length ≤ 1000 := by rw [List.length_map]; omega
      refine for_src (fun i B' V' m' => B₇.le B' ∧ SecSt D B' V' ra al fo (r.map (·.2), asks.map (·.2)) (((up a).take i).map fun x => (q, x)) ∧ Only [4, 8, 9] V₇ V' ∧
        m' (Str.ofString "c") = some (.ref x) ∧ m' (Str.ofString "infer_constraints") = some (.ref fi) ∧ m' (Str.ofString "uppers") = some (.ref du) ∧ m' (Str.ofString "lowers") = some (.ref dl) ∧ m' (Str.ofString "remaining") = some (.ref ra))
        F₁₉ (Src.list (by exact hA.h) (At.ofV ha₂)) ⟨View.le.refl _, by simpa using S0, Only.refl _ _, hm0, hm1, hm2, hm3, hm4⟩ ?_ ?_ ?_
      · rintro i B' V' m' ⟨_, _, on', _⟩ _
        exact At.ofV ((on' _ (by simp)).trans ha₂)
      · rintro i v R₁ B₉ V₉ m₉ s₂₁ hi hP hl₉ ⟨_, S₉, on₉, hm0, hm1, hm2, hm3, hm4⟩ F₂₁
        obtain ⟨lt, hlt, rfl⟩ : ∃ lt, (up a)[i]? = some lt ∧ clsV D lt = v := by simpa using hP
        have hlt3 := hltlo lt (List.mem_of_getElem? hlt)
        have htk : (up a).take (i + 1) = (up a).take i ++ [lt] := by rw [List.take_add_one, hlt]; rfl
        have hti : ((up a).take i).length ≤ 3 := Nat.le_trans (by simp; omega) hlo3
        have ic₉ : SInst B₉ x 45 [(Str.ofString "type_var", .ref (D.id a)), (Str.ofString "op", .int (if true = true then 1 else 0) tc), (Str.ofString "target", .ref (D.cls q)), (Str.ofString "origin_type_var", .ref (D.var a))] := ic₇.le hl₉
        clear F₁₉ F₁₈ ic₇
        have hclsV : clsV D lt = .ref (D.cls lt) := rfl
        rw [hclsV]
        repeat walk1
        rename_i s₂₄ F₂₄
        refine sec_step F₂₄ Cc' (by exact (hA.deeper).mono) (hD₇.le hl₉) (hI.le ((hl₃.trans hl₈).trans hl₉)) S₉ hb1 hb2 (by rw [List.length_map]; omega) hq hlt3 fun Bb Vb s₂₅ hlb F₂₅ onb Sb => ?_
        repeat walk1
        refine BodyEnd.next ⟨Bb, Vb, _, hlb, ⟨hl₉.trans hlb, ?_, on₉.trans onb, by dl_step, by dl_step, by dl_step, by dl_step, by dl_step⟩, F₂₅⟩
        rw [htk, List.map_append]
        exact Sb
      · rintro Bz Vz mz s₂₁ hlz ⟨_, Sz, onz, hm0, hm1, hm2, hm3, hm4⟩ F₂₁
        have hle : (List.map (clsV D) (up a)).length = (up a).length := List.length_map _
        rw [hle, List.take_length] at Sz
        dsimp only
        repeat walk1
        obtain ⟨rem', asks', hr', ha', e1, e2⟩ := Sz.ex
        have hf := secs_facts fo (r.map (·.2), asks.map (·.2)) ((up a).map fun x => (q, x))
        have hcl : ((up a).map fun x => (q, x)).length ≤ 9 := by rw [List.length_map]; omega
        have l1 : rem'.length = (secs fo (r.map (·.2), asks.map (·.2)) ((up a).map fun x => (q, x))).1.length := by rw [← e1, List.length_map]
        have l2 : asks'.length = (secs fo (r.map (·.2), asks.map (·.2)) ((up a).map fun x => (q, x))).2.length := by rw [← e2, List.length_map]
        have hE' : (if asks' = [] then 2 else 0) = (if (secs fo (r.map (·.2), asks.map (·.2)) ((up a).map fun x => (q, x))).2 = [] then 2 else 0) := by rw [← e2]; simp
        have hE : (if asks = [] then 2 else 0) = (if asks.map (·.2) = [] then 2 else 0) := by simp
        have hms : rem'.length + (if asks' = [] then 2 else 0) ≤ r.length + (if asks = [] then 2 else 0) := by
          have h := hf.2.1
          rw [hE', hE, l1]
          simpa using h
        have has : asks'.length = asks.length + 2 * ((up a).map fun x => (q, x)).length := by
          rw [l2, hf.1]; simp
        have hst : step fo D.n (csOf G lo up r asks) (a, true, false, q) = csOf G lo' up rem' asks' := by
          show stepSup fo D.n (csOf G lo up r asks) a q = _
          unfold stepSup
          rw [if_neg (by rw [show (csOf G lo up r asks).lo = lo from rfl, hin]; exact Bool.false_ne_true)]
          show CS.withSecs ⟨G.map (·.2), putLo D.n (G.map (·.2)) a q lo, up, r.map (·.2), asks.map (·.2)⟩ fo ((up a).map fun x => (q, x)) = _
          rw [show putLo D.n (G.map (·.2)) a q lo = lo' from hup']
          unfold CS.withSecs csOf
          rw [e1, e2]
        rw [hst] at hrun₈
        refine Leaf.mk ⟨_, ?_, Bz, Vz, _, G, lo', up, rem', asks', rfl, hl₈.trans hlz, F₂₁, TC₇.only hlz (onz.mono (by decide)) hr' ha', onV₇.trans (onz.mono (by decide)), hrun₈, by omega, by omega, hm1, hm2, hm3, hm4⟩
        rw [List.length_append, List.length_singleton]; omega
end

end
section
section
variable {prog : Program} {w : World} {A : Around} {E : Value → Shared → Prop} {s₀ s : Shared} {Rv Z B : View} {V : Dyn} {L x dx C fI : Addr} {m mg mb : Str → Option Value} {i : Nat × Nat} {n : Nat}
theorem Lv.make {args : List Value} (h : Lv (n + 1) A) : Lv n (A.under (.builtin "type.__call__" ⟨.ref C :: args, []⟩)) :=
  ⟨h.h, by have := h.d; show A.depth + 1 + _ ≤ _; omega, by have := h.u; first | (show A.units + 0 + _ ≤ _; omega) | (show A.units + 1 + _ ≤ _; omega) | (show A.units + 2 + _ ≤ _; omega) | (show A.units + 3 + _ ≤ _; omega) | (show A.units + 4 + _ ≤ _; omega) | (show A.units + 5 + _ ≤ _; omega)⟩
/-- a class called: its __init__ runs on the new object, whose dict lies at the role i -/
theorem call_cls {args : List Value} {Q : Value → Shared → Prop} (i : Nat × Nat) (F : St s₀ Rv Z B V L m s) (Cc : Cx w mg mb Z) (hm : makesIn (hd.heap_39 w.params) C = true)
    (hi : findIn (hd.heap_39 w.params) (.ref C) "__init__" = some (some (.ref fI))) (hf : typeIn (hd.heap_39 w.params) (.ref fI) = some (.type "function"))
    (h : ∀ x dx s', B x = none → B dx = none → St s₀ Rv Z (B.put x (instObj C dx)) (V.put i (dx, dictOf [] 0)) L m s' →
      codeAny (model prog w) (A.under (.builtin "type.__call__" ⟨.ref C :: args, []⟩)) (.call (.ref fI) ⟨.ref x :: args, []⟩) (fun r s'' => match r with | .ok (.ret v) => v = .none ∧ Q (.ref x) s'' | .ok _ => False | .error e => E e s'') s') :
    wpAny (model prog w) A (call (.ref C) args) Q E s := by
  refine wpAny_call ?_
  have X := Cc.kin F.toFz
  have n1 := get_fresh s.heap
  have F₁ : St s₀ Rv Z B (V.put i (s.heap.objs.size, emptyDict)) L m { s with heap := s.heap.push emptyDict, toks := s.toks } := F.newV n1 (fun _ _ e => Heap.get?_push_of_some _ e) (Heap.get?_push_size _ rfl)
  have n2 := get_fresh (s.heap.push emptyDict)
  rw [Heap.size_push] at n2
  have F₂ : St s₀ Rv Z (B.put (s.heap.objs.size + 1) (instObj C s.heap.objs.size)) (V.put i (s.heap.objs.size, emptyDict)) L m { s with heap := (s.heap.push emptyDict).push (instObj C s.heap.objs.size), toks := s.toks } :=
    F₁.newB n2 (fun _ _ e => Heap.get?_push_of_some _ e) (by rw [← Heap.size_push]; exact Heap.get?_push_size _ rfl)
  have H := h _ _ _ (F₁.fresh n2).2.1 (F.fresh n1).2.1 F₂
  obtain ⟨hh, g, d, t, os⟩ := s
  exact make_core (makes_of X hm) (looks_findIn X hi) (fun self => bind_fn X self hf) (.inl rfl) (codeAny_mono H fun r s' z => by
    rcases r with e | (v | _ | _ | _) <;> exact z)

theorem Keyed.snoc {es fs} {name : Str} {hsh : Int} {t : Tok} {v : Value} (k : Keyed es fs) (h : fs.lookup name = none) : Keyed (putL name hsh (.str name t) v es) (fs ++ [(name, v)]) := by
  induction k with
  | nil => exact .cons rfl rfl .nil
  | @cons e es x v' fs t' e1 e2 _ ih =>
    have hne : (name == x) = false := by
      cases q : name == x with
      | false => rfl
      | true => rw [List.lookup_cons, q] at h; cases h
    have h' : fs.lookup name = none := by rw [List.lookup_cons, hne] at h; exact h
    have hs : e.key.isStr name = false := by
      rw [e1]; show (x == name) = false
      simpa using fun q => (by simpa using hne : ¬ name = x) q.symm
    unfold putL
    rw [hs]
    exact .cons e1 e2 (ih h')
theorem Keyed.len {es fs} (k : Keyed es fs) : es.length = fs.length := by
  induction k with
  | nil => rfl
  | cons _ _ _ ih => rw [List.length_cons, List.length_cons, ih]
theorem Keyed.noRef {es fs} (k : Keyed es fs) : es.any (·.refKey) = false := by
  induction k with
  | nil => rfl
  | cons e1 _ _ ih => rw [List.any_cons, ih]; simp [DictEntry.refKey, e1]
/-- x.name = v, a new name -/
theorem a_set {name : Str} {es : List DictEntry} {fs : List (Str × Value)} {k : Nat} {v : Value} {Q : Unit → Shared → Prop} (F : St s₀ Rv Z B V L m s) (Cc : Cx w mg mb Z) (hx : B x = some (instObj C dx)) (hv : V i = some (dx, dictOf es k)) (hk : Keyed es fs) (hnew : fs.lookup name = none) (hlen : fs.length ≤ 100)
    (hs : findIn (hd.heap_39 w.params) (.ref C) "__setattr__" = some (some (.builtin "object.__setattr__"))) (hp : plainOver (hd.heap_39 w.params) C = true) (ht : takerIn (hd.heap_39 w.params) C name = some none) (hh : (clsIn (hd.heap_39 w.params) C).any (·.hasDict) = true)
    (h : ∀ es' k' s', Keyed es' (fs ++ [(name, v)]) → St s₀ Rv Z B (V.put i (dx, dictOf es' k')) L m s' → Q () s') : wpAny (model prog w) A (setAttr (.ref x) name v) Q E s := by
  have X := Cc.kin F.toFz
  have D := (F.v _ _ _ hv).1
  have I : W.InstAt s.heap x (instObj C dx) C (some (dictOf es k)) := ⟨(F.b _ _ hx).1, rfl, rfl, D⟩
  refine set_plain X I hs ?_
  have F₁ : St s₀ Rv Z B V L m { s with toks := s.toks + 1 } := F.toks
  have I₁ : W.InstAt ({ s with toks := s.toks + 1 } : Shared).heap x (instObj C dx) C (some (dictOf es k)) := I
  refine osa_open (Cc.kin F₁.toFz) I₁ hp ht fun b => ?_
  obtain ⟨cd, hc, hd'⟩ := any_some hh
  refine wpAny_bind (wpAny_pure (wpAny_bind (wpAny_bind (wpAny_loadPart (F₁.b _ _ hx).1 (wpAny_bind ((looks_clsIn (Cc.kin F₁.toFz) hc).here ?_))))))
  rw [hd']
  refine wpAny_pure (a := some dx) (wpAny_bind (wpAny_pure (wpAny_bind ?_)))
  unfold nsSet
  refine wpAny_bind (wpAny_bind (wpAny_askSetting (wpAny_pure (wpAny_bind (wpAny_mkText (wpAny_bind (wpAny_loadPart (F₁.v _ _ _ hv).1 ?_)))))))
  dsimp only
  have hrk : es.toArray.any (·.refKey) = false := by
    rw [← Array.any_toList]
    exact hk.noRef
  have c : (!es.toArray.any (·.key.isStr name) && es.toArray.any (·.refKey)) = false := by rw [hrk, Bool.and_false]
  rw [aRefKeyMayBeTheName_at, c]
  refine wpAny_updatePart (F₁.v _ _ _ hv).1 ?_
  have k' := hk.snoc (hsh := PyData.keyHash w.params name) (t := s.toks + 1) (v := v) hnew
  have hl := k'.len
  rw [List.length_append, List.length_singleton] at hl
  have D' : (s.heap.update dx (Obj.putName name (PyData.keyHash w.params name) (.str name (s.toks + 1)) v)).get? dx = some (dictOf (putL name (PyData.keyHash w.params name) (.str name (s.toks + 1)) v es) (putN name es k)) := by
    rw [Heap.get?_update_self _ (F₁.v _ _ _ hv).1 (by rw [putName_dict]; rfl), putName_dict]
  refine wpAny_bind (wpAny_lookBehind D' (pastItsLine_dict (by rw [List.size_toArray, sizeLine_eq]; omega)) ?_)
  exact wpAny_pure (h _ _ _ k' (F.updV hv (Heap.SameBut.update ..) D'))
end

end
section
inductive Way (E : Nat → Nat → Prop) : Nat → Nat → Prop
  | refl (a : Nat) : Way E a a
  | step {a b c : Nat} : Way E a b → E b c → Way E a c
namespace Way
variable {E E' : Nat → Nat → Prop} {a b c l u n : Nat}
theorem trans (h : Way E a b) (h' : Way E b c) : Way E a c := by
  induction h' with
  | refl => exact h
  | step _ e ih => exact ih.step e
theorem mono (hE : ∀ a b, E a b → E' a b) (h : Way E a b) : Way E' a b := by
  induction h with
  | refl => exact .refl _
  | step _ e ih => exact ih.step (hE _ _ e)
theorem congr (hE : ∀ a b, E a b ↔ E' a b) : Way E a b ↔ Way E' a b := ⟨mono fun a b => (hE a b).mp, mono fun a b => (hE a b).mpr⟩
theorem lt (hE : ∀ a b, E a b → a < n ∧ b < n) (h : Way E a b) (ha : a < n) : b < n := by
  induction h with
  | refl => exact ha
  | step _ e _ => exact (hE _ _ e).2
theorem lt' (hE : ∀ a b, E a b → a < n ∧ b < n) (h : Way E a b) (hb : b < n) : a < n := by
  induction h with
  | refl => exact hb
  | step _ e ih => exact ih (hE _ _ e).1
theorem add (hE : ∀ a b, E' a b ↔ E a b ∨ (a = l ∧ b = u)) : Way E' a b ↔ Way E a b ∨ (Way E a l ∧ Way E u b) := by
  constructor
  · intro h
    induction h with
    | refl => exact .inl (.refl _)
    | step _ e ih =>
      rcases (hE _ _).mp e with e | ⟨rfl, rfl⟩
      · rcases ih with ih | ⟨h1, h2⟩
        · exact .inl (ih.step e)
        · exact .inr ⟨h1, h2.step e⟩
      · rcases ih with ih | ⟨h1, h2⟩
        · exact .inr ⟨ih, .refl _⟩
        · exact .inr ⟨h1, .refl _⟩
  · rintro (h | ⟨h1, h2⟩)
    · exact h.mono fun a b e => (hE a b).mpr (.inl e)
    · exact ((h1.mono fun a b e => (hE a b).mpr (.inl e)).step ((hE _ _).mpr (.inr ⟨rfl, rfl⟩))).trans (h2.mono fun a b e => (hE a b).mpr (.inl e))
end Way
def edge (D : Con → Prop) (a b : Nat) : Prop := D (a, false, true, b) ∨ D (b, true, true, a)
abbrev WayD (D : Con → Prop) (a b : Nat) : Prop := Way (edge D) a b
def Low (D : Con → Prop) (k j : Nat) : Prop := ∃ one, D (one, true, false, j) ∧ WayD D one k
def Upp (D : Con → Prop) (k j : Nat) : Prop := ∃ one, D (one, false, false, j) ∧ WayD D k one
def Meet (D : Con → Prop) (lt ut : Nat) : Prop := ∃ one other, D (one, true, false, lt) ∧ D (other, false, false, ut) ∧ WayD D one other
theorem mem_iff (P : List Pr) (a b : Nat) : mem P a b = true ↔ (a, b) ∈ P := by
  unfold mem
  simp only [List.any_eq_true, beq_iff_eq]
  exact ⟨fun ⟨p, h, e⟩ => e ▸ h, fun h => ⟨_, h, rfl⟩⟩
theorem mem_dedup {α : Type} [BEq α] [LawfulBEq α] (l : List α) (x : α) : x ∈ dedup l ↔ x ∈ l := by
  refine snoc_ind (P := fun l => x ∈ dedup l ↔ x ∈ l) Iff.rfl (fun l y ih => ?_) l
  rw [dedup_snoc]
  split
  · rename_i h
    simp only [List.any_eq_true, beq_iff_eq] at h
    obtain ⟨z, hz, rfl⟩ := h
    rw [ih, List.mem_append]
    refine ⟨.inl, ?_⟩
    rintro (h | h)
    · exact h
    · simp only [List.mem_singleton] at h
      subst h
      exact (dedup_sub l).1 _ hz
  · rw [List.mem_append, List.mem_append, ih]
theorem mem_putn (l : List Nat) (q x : Nat) : x ∈ putn l q ↔ x ∈ l ∨ x = q := by
  unfold putn
  split
  · rename_i h
    simp only [List.any_eq_true, beq_iff_eq] at h
    obtain ⟨z, hz, rfl⟩ := h
    exact ⟨.inl, fun h => h.elim id (fun e => e ▸ hz)⟩
  · simp
theorem foldLo_aux (P : List Pr) (lower upper : Nat) (f : Nat → List Nat) : ∀ m, (∀ u j, j ∈ (List.range m).foldl (fun f u => if mem P upper u then upd f u (dedup (f u ++ f lower)) else f) f u ↔ j ∈ f u ∨ (u < m ∧ mem P upper u = true ∧ j ∈ f lower)) ∧ (∀ u, (f u).Nodup → ((List.range m).foldl (fun f u => if mem P upper u then upd f u (dedup (f u ++ f lower)) else f) f u).Nodup)
  | 0 => ⟨fun u j => by simp, fun u h => h⟩
  | m + 1 => by
    obtain ⟨ih, nd⟩ := foldLo_aux P lower upper f m
    rw [List.range_succ, List.foldl_append]
    generalize (List.range m).foldl (fun f u => if mem P upper u then upd f u (dedup (f u ++ f lower)) else f) f = g at ih nd
    simp only [List.foldl_cons, List.foldl_nil]
    split
    · rename_i hm
      refine ⟨fun u j => ?_, fun u h => ?_⟩
      · unfold upd
        split
        · rename_i e; subst e
          rw [mem_dedup, List.mem_append, ih, ih]
          constructor
          · rintro ((h | ⟨h, _⟩) | (h | ⟨_, _, h⟩))
            · exact .inl h
            · omega
            · exact .inr ⟨by omega, hm, h⟩
            · exact .inr ⟨by omega, hm, h⟩
          · rintro (h | ⟨_, _, h⟩)
            · exact .inl (.inl h)
            · exact .inr (.inl h)
        · rename_i e
          rw [ih]
          constructor
          · rintro (h | ⟨h, h'⟩)
            · exact .inl h
            · exact .inr ⟨by omega, h'⟩
          · rintro (h | ⟨h, h'⟩)
            · exact .inl h
            · exact .inr ⟨by omega, h'⟩
      · unfold upd
        split
        · exact dedup_nodup _
        · exact nd u h
    · rename_i hm
      refine ⟨fun u j => ?_, nd⟩
      rw [ih]
      constructor
      · rintro (h | ⟨h, h'⟩)
        · exact .inl h
        · exact .inr ⟨by omega, h'⟩
      · rintro (h | ⟨h, h', h''⟩)
        · exact .inl h
        · by_cases e : u = m
          · subst e; exact absurd h' hm
          · exact .inr ⟨by omega, h', h''⟩
theorem foldUp_aux (P : List Pr) (lower upper : Nat) (f : Nat → List Nat) : ∀ m, (∀ u j, j ∈ (List.range m).foldl (fun f l => if mem P l lower then upd f l (dedup (f l ++ f upper)) else f) f u ↔ j ∈ f u ∨ (u < m ∧ mem P u lower = true ∧ j ∈ f upper)) ∧ (∀ u, (f u).Nodup → ((List.range m).foldl (fun f l => if mem P l lower then upd f l (dedup (f l ++ f upper)) else f) f u).Nodup)
  | 0 => ⟨fun u j => by simp, fun u h => h⟩
  | m + 1 => by
    obtain ⟨ih, nd⟩ := foldUp_aux P lower upper f m
    rw [List.range_succ, List.foldl_append]
    generalize (List.range m).foldl (fun f l => if mem P l lower then upd f l (dedup (f l ++ f upper)) else f) f = g at ih nd
    simp only [List.foldl_cons, List.foldl_nil]
    split
    · rename_i hm
      refine ⟨fun u j => ?_, fun u h => ?_⟩
      · unfold upd
        split
        · rename_i e; subst e
          rw [mem_dedup, List.mem_append, ih, ih]
          constructor
          · rintro ((h | ⟨h, _⟩) | (h | ⟨_, _, h⟩))
            · exact .inl h
            · omega
            · exact .inr ⟨by omega, hm, h⟩
            · exact .inr ⟨by omega, hm, h⟩
          · rintro (h | ⟨_, _, h⟩)
            · exact .inl (.inl h)
            · exact .inr (.inl h)
        · rename_i e
          rw [ih]
          constructor
          · rintro (h | ⟨h, h'⟩)
            · exact .inl h
            · exact .inr ⟨by omega, h'⟩
          · rintro (h | ⟨h, h'⟩)
            · exact .inl h
            · exact .inr ⟨by omega, h'⟩
      · unfold upd
        split
        · exact dedup_nodup _
        · exact nd u h
    · rename_i hm
      refine ⟨fun u j => ?_, nd⟩
      rw [ih]
      constructor
      · rintro (h | ⟨h, h'⟩)
        · exact .inl h
        · exact .inr ⟨by omega, h'⟩
      · rintro (h | ⟨h, h', h''⟩)
        · exact .inl h
        · by_cases e : u = m
          · subst e; exact absurd h' hm
          · exact .inr ⟨by omega, h', h''⟩
theorem put_aux (C : Nat → Bool) (q : Nat) (f : Nat → List Nat) : ∀ m, (∀ u j, j ∈ (List.range m).foldl (fun f l => if C l then upd f l (putn (f l) q) else f) f u ↔ j ∈ f u ∨ (u < m ∧ C u = true ∧ j = q)) ∧ (∀ u, (f u).Nodup → ((List.range m).foldl (fun f l => if C l then upd f l (putn (f l) q) else f) f u).Nodup)
  | 0 => ⟨fun u j => by simp, fun u h => h⟩
  | m + 1 => by
    obtain ⟨ih, nd⟩ := put_aux C q f m
    rw [List.range_succ, List.foldl_append]
    generalize (List.range m).foldl (fun f l => if C l then upd f l (putn (f l) q) else f) f = g at ih nd
    simp only [List.foldl_cons, List.foldl_nil]
    split
    · rename_i hm
      refine ⟨fun u j => ?_, fun u h => ?_⟩
      · unfold upd
        split
        · rename_i e; subst e
          rw [mem_putn, ih]
          constructor
          · rintro ((h | ⟨h, _⟩) | h)
            · exact .inl h
            · omega
            · exact .inr ⟨by omega, hm, h⟩
          · rintro (h | ⟨_, _, h⟩)
            · exact .inl (.inl h)
            · exact .inr h
        · rename_i e
          rw [ih]
          constructor
          · rintro (h | ⟨h, h'⟩)
            · exact .inl h
            · exact .inr ⟨by omega, h'⟩
          · rintro (h | ⟨h, h'⟩)
            · exact .inl h
            · exact .inr ⟨by omega, h'⟩
      · unfold upd
        split
        · rename_i e; subst e; exact putn_nodup (nd _ h)
        · exact nd u h
    · rename_i hm
      refine ⟨fun u j => ?_, nd⟩
      rw [ih]
      constructor
      · rintro (h | ⟨h, h'⟩)
        · exact .inl h
        · exact .inr ⟨by omega, h'⟩
      · rintro (h | ⟨h, h', h''⟩)
        · exact .inl h
        · by_cases e : u = m
          · subst e; exact absurd h' hm
          · exact .inr ⟨by omega, h', h''⟩
theorem mem_pairsNew (n : Nat) (P : List Pr) (lower upper a b : Nat) : (a, b) ∈ pairsNew n P lower upper ↔ a < n ∧ b < n ∧ (a, lower) ∈ P ∧ (upper, b) ∈ P ∧ (a, b) ∉ P := by
  unfold pairsNew
  simp only [List.mem_flatMap, List.mem_range]
  constructor
  · rintro ⟨l, hl, u, hu, h⟩
    split at h
    · rename_i hc
      simp only [List.mem_singleton, Prod.mk.injEq] at h
      obtain ⟨rfl, rfl⟩ := h
      simp only [Bool.and_eq_true, Bool.not_eq_true', mem_iff] at hc
      refine ⟨hl, hu, hc.1.1, hc.1.2, fun h => ?_⟩
      rw [(mem_iff _ _ _).mpr h] at hc
      exact absurd hc.2 (by decide)
    · exact absurd h (by simp)
  · rintro ⟨ha, hb, h1, h2, h3⟩
    refine ⟨a, ha, b, hb, ?_⟩
    rw [if_pos]
    · simp
    · simp only [Bool.and_eq_true, Bool.not_eq_true', mem_iff]
      refine ⟨⟨h1, h2⟩, ?_⟩
      cases e : mem P a b
      · rfl
      · exact absurd ((mem_iff _ _ _).mp e) h3
theorem secs_asks (fo : Bool) : ∀ (L : List (Nat × Nat)) (rem : List Con) (asks : List Ask) (q : Ask), q ∈ (secs fo (rem, asks) L).2 ↔ q ∈ asks ∨ (q.1 < 2 ∧ (q.2.1, q.2.2) ∈ L)
  | [], rem, asks, q => by simp [secs]
  | p :: L, rem, asks, q => by
    show q ∈ (secs fo (secStep fo (rem, asks) p) L).2 ↔ _
    unfold secStep
    rw [secs_asks fo L]
    obtain ⟨s, x, y⟩ := q
    obtain ⟨p1, p2⟩ := p
    simp only [List.mem_append, List.mem_cons, List.not_mem_nil, or_false, Prod.mk.injEq]
    constructor
    · rintro ((h | ⟨rfl, rfl, rfl⟩ | ⟨rfl, rfl, rfl⟩) | ⟨h, h'⟩)
      · exact .inl h
      · exact .inr ⟨by omega, .inl ⟨rfl, rfl⟩⟩
      · exact .inr ⟨by omega, .inl ⟨rfl, rfl⟩⟩
      · exact .inr ⟨h, .inr h'⟩
    · rintro (h | ⟨h, ⟨rfl, rfl⟩ | h'⟩)
      · exact .inl (.inl h)
      · have h2 : s = 0 ∨ s = 1 := by omega
        rcases h2 with rfl | rfl
        · exact .inl (.inr (.inl ⟨rfl, rfl, rfl⟩))
        · exact .inl (.inr (.inr ⟨rfl, rfl, rfl⟩))
      · exact .inr ⟨h, h'⟩
theorem secs_nil (fo : Bool) : ∀ (L : List (Nat × Nat)) (rem : List Con) (asks : List Ask), (secs fo (rem, asks) L).2 = [] ↔ asks = [] ∧ L = []
  | [], rem, asks => by simp [secs]
  | p :: L, rem, asks => by
    show (secs fo (secStep fo (rem, asks) p) L).2 = [] ↔ _
    unfold secStep
    rw [secs_nil fo L]
    simp
theorem mem_putc (l : List Con) (q x : Con) : x ∈ putc l q ↔ x ∈ l ∨ x = q := by
  unfold putc
  split
  · rename_i h
    simp only [List.any_eq_true, beq_iff_eq] at h
    obtain ⟨z, hz, rfl⟩ := h
    exact ⟨.inl, fun h => h.elim id (fun e => e ▸ hz)⟩
  · simp
theorem secs_rem (fo : Bool) : ∀ (L : List (Nat × Nat)) (rem : List Con) (asks : List Ask) (c : Con), c ∈ (secs fo (rem, asks) L).1 ↔ c ∈ rem ∨ (fo = true ∧ asks = [] ∧ L ≠ [] ∧ c = fup)
  | [], rem, asks, c => by simp [secs]
  | p :: L, rem, asks, c => by
    show c ∈ (secs fo (secStep fo (rem, asks) p) L).1 ↔ _
    unfold secStep
    rw [secs_rem fo L]
    unfold secRem
    have hne : asks ++ [(0, p.1, p.2), (1, p.1, p.2)] ≠ [] := by simp
    split
    · rename_i h
      rw [mem_putc]
      have h2 : asks = [] := by simpa using h.2
      constructor
      · rintro ((h' | h') | ⟨_, h', _⟩)
        · exact .inl h'
        · exact .inr ⟨h.1, h2, by simp, h'⟩
        · exact absurd h' hne
      · rintro (h' | ⟨_, _, _, h'⟩)
        · exact .inl (.inl h')
        · exact .inl (.inr h')
    · rename_i h
      constructor
      · rintro (h' | ⟨_, h', _⟩)
        · exact .inl h'
        · exact absurd h' hne
      · rintro (h' | ⟨h1, h2, _, h'⟩)
        · exact .inl h'
        · exact absurd ⟨h1, by simp [h2]⟩ h
structure Inv (fo : Bool) (n : Nat) (cons : List Con) (D : Con → Prop) (S : CS) : Prop where
  set : ∀ c, (D c ∨ c ∈ S.rem) ↔ (c ∈ cons ∨ (fo = true ∧ S.asks ≠ [] ∧ c = fup))
  pn : S.P.Nodup
  p : ∀ a b, (a, b) ∈ S.P ↔ a < n ∧ b < n ∧ WayD D a b
  lon : ∀ k, k < n → (S.lo k).Nodup
  lo : ∀ k, k < n → ∀ j, j ∈ S.lo k ↔ Low D k j
  upn : ∀ k, k < n → (S.up k).Nodup
  up : ∀ k, k < n → ∀ j, j ∈ S.up k ↔ Upp D k j
  asks : ∀ s lt ut, (s, lt, ut) ∈ S.asks ↔ s < 2 ∧ Meet D lt ut

end
section
theorem set_prop {d m e k f a u l : Prop} (h : (d ∨ (m ∨ e)) ↔ (k ∨ (f ∧ ¬ a ∧ u))) : ((d ∨ e) ∨ (m ∨ (f ∧ a ∧ ¬ l ∧ u))) ↔ (k ∨ (f ∧ ¬ (a ∧ l) ∧ u)) := by
  grind
theorem edge_ok {D : Con → Prop} {n : Nat} (h : ∀ x, D x → x.ok n) (a b : Nat) (e : edge D a b) : a < n ∧ b < n := by
  rcases e with e | e
  · exact ⟨(h _ e).1, (h _ e).2.1 rfl⟩
  · exact ⟨(h _ e).2.1 rfl, (h _ e).1⟩
theorem set_next {fo : Bool} {D : Con → Prop} {cons r rem' : List Con} {asks asks' : List Ask} {L : List (Nat × Nat)} {c : Con}
    (h : ∀ x, (D x ∨ x ∈ r ++ [c]) ↔ (x ∈ cons ∨ (fo = true ∧ asks ≠ [] ∧ x = fup)))
    (h1 : ∀ x, x ∈ rem' ↔ x ∈ r ∨ (fo = true ∧ asks = [] ∧ L ≠ [] ∧ x = fup)) (h2 : asks' = [] ↔ asks = [] ∧ L = []) :
    ∀ x, ((D x ∨ x = c) ∨ x ∈ rem') ↔ (x ∈ cons ∨ (fo = true ∧ asks' ≠ [] ∧ x = fup)) := by
  intro x
  have h := h x
  rw [h1]
  have h2' : asks' ≠ [] ↔ ¬ (asks = [] ∧ L = []) := not_congr h2
  rw [h2']
  simp only [List.mem_append, List.mem_singleton] at h
  exact set_prop h
section
variable {fo : Bool} {n : Nat} {cons r : List Con} {D : Con → Prop} {S : CS} {c : Con}
theorem edge_bound {c : Con} (hc : c.2.2.1 = false) (a b : Nat) : edge (fun x => D x ∨ x = c) a b ↔ edge D a b := by
  unfold edge
  constructor
  · rintro ((h | rfl) | (h | rfl))
    · exact .inl h
    · exact absurd hc (by simp)
    · exact .inr h
    · exact absurd hc (by simp)
  · rintro (h | h)
    · exact .inl (.inl h)
    · exact .inr (.inl h)
theorem way_bound {c : Con} (hc : c.2.2.1 = false) (a b : Nat) : WayD (fun x => D x ∨ x = c) a b ↔ WayD D a b := Way.congr (edge_bound hc)
theorem edge_var {c : Con} {l u : Nat} (hc : c = (l, false, true, u) ∨ c = (u, true, true, l)) (a b : Nat) : edge (fun x => D x ∨ x = c) a b ↔ edge D a b ∨ (a = l ∧ b = u) := by
  unfold edge
  rcases hc with rfl | rfl
  · simp only [Prod.mk.injEq, Bool.true_eq_false, false_and, and_false, or_false, true_and]
    constructor
    · rintro ((h | ⟨h, h'⟩) | h)
      · exact .inl (.inl h)
      · exact .inr ⟨h, h'⟩
      · exact .inl (.inr h)
    · rintro ((h | h) | ⟨h, h'⟩)
      · exact .inl (.inl h)
      · exact .inr h
      · exact .inl (.inr ⟨h, h'⟩)
  · simp only [Prod.mk.injEq, Bool.false_eq_true, false_and, and_false, or_false, true_and]
    constructor
    · rintro (h | (h | ⟨h, h'⟩))
      · exact .inl (.inl h)
      · exact .inl (.inr h)
      · exact .inr ⟨h', h⟩
    · rintro ((h | h) | ⟨h, h'⟩)
      · exact .inl h
      · exact .inr (.inl h)
      · exact .inr (.inr ⟨h', h⟩)
theorem way_var {c : Con} {l u : Nat} (hc : c = (l, false, true, u) ∨ c = (u, true, true, l)) (a b : Nat) : WayD (fun x => D x ∨ x = c) a b ↔ WayD D a b ∨ (WayD D a l ∧ WayD D u b) := Way.add (edge_var hc)
/-- nothing new, when the two lead already -/
theorem way_var' {c : Con} {l u : Nat} (hc : c = (l, false, true, u) ∨ c = (u, true, true, l)) (h : WayD D l u) (a b : Nat) : WayD (fun x => D x ∨ x = c) a b ↔ WayD D a b := by
  rw [way_var hc]
  exact ⟨fun h' => h'.elim id fun ⟨h1, h2⟩ => (h1.trans h).trans h2, .inl⟩
theorem inv_var {l u : Nat} (hn : 1 ≤ n) (hok : ∀ x ∈ cons, x.ok n) (hr : S.rem = r ++ [c]) (I : Inv fo n cons D S) (hc : c = (l, false, true, u) ∨ c = (u, true, true, l)) :
    Inv fo n cons (fun x => D x ∨ x = c) (stepVar fo n { S with rem := r } l u) := by
  have hD : ∀ x, (D x ∨ x ∈ S.rem) → x.ok n := fun x hx => by
    rcases (I.set x).mp hx with h | ⟨_, _, rfl⟩
    · exact hok x h
    · exact ⟨hn, fun h => absurd h (by decide), fun _ => by decide⟩
  have hcok : c.ok n := hD c (.inr (by rw [hr]; simp))
  have hlu : l < n ∧ u < n := by
    rcases hc with rfl | rfl
    · exact ⟨hcok.1, hcok.2.1 rfl⟩
    · exact ⟨hcok.2.1 rfl, hcok.1⟩
  have hset := I.set
  rw [hr] at hset
  have Dlow : ∀ one j, (D (one, true, false, j) ∨ (one, true, false, j) = c) ↔ D (one, true, false, j) := fun one j => ⟨fun h => h.elim id fun e => by rcases hc with rfl | rfl <;> simp at e, .inl⟩
  have Dup : ∀ one j, (D (one, false, false, j) ∨ (one, false, false, j) = c) ↔ D (one, false, false, j) := fun one j => ⟨fun h => h.elim id fun e => by rcases hc with rfl | rfl <;> simp at e, .inl⟩
  have lowEq : ∀ k j, Low (fun x => D x ∨ x = c) k j ↔ ∃ one, D (one, true, false, j) ∧ WayD (fun x => D x ∨ x = c) one k := fun k j => by unfold Low; simp only [Dlow]
  have uppEq : ∀ k j, Upp (fun x => D x ∨ x = c) k j ↔ ∃ one, D (one, false, false, j) ∧ WayD (fun x => D x ∨ x = c) k one := fun k j => by unfold Upp; simp only [Dup]
  have meetEq : ∀ k j, Meet (fun x => D x ∨ x = c) k j ↔ ∃ one other, D (one, true, false, k) ∧ D (other, false, false, j) ∧ WayD (fun x => D x ∨ x = c) one other := fun k j => by unfold Meet; simp only [Dlow, Dup]
  unfold stepVar
  split
  · rename_i hm
    have hw : WayD D l u := ((I.p _ _).mp ((mem_iff _ _ _).mp hm)).2.2
    have W := way_var' (D := D) hc hw
    refine ⟨set_next (asks := S.asks) (L := []) hset (fun x => by simp) (by simp), I.pn, fun a b => ?_, I.lon, fun k hk j => ?_, I.upn, fun k hk j => ?_, fun s lt ut => ?_⟩
    · rw [W]; exact I.p a b
    · rw [lowEq]; simp only [W]; exact I.lo k hk j
    · rw [uppEq]; simp only [W]; exact I.up k hk j
    · rw [meetEq]; simp only [W]; exact I.asks s lt ut
  · rename_i hm
    have W := way_var (D := D) hc
    have hp : ∀ a b, (a, b) ∈ S.P ++ pairsNew n S.P l u ↔ a < n ∧ b < n ∧ WayD (fun x => D x ∨ x = c) a b := fun a b => by
      rw [List.mem_append, mem_pairsNew, W, I.p, I.p, I.p]
      constructor
      · rintro (⟨h1, h2, h3⟩ | ⟨h1, h2, h3, h4, h5⟩)
        · exact ⟨h1, h2, .inl h3⟩
        · exact ⟨h1, h2, .inr ⟨h3.2.2, h4.2.2⟩⟩
      · rintro ⟨h1, h2, h3⟩
        by_cases h4 : WayD D a b
        · exact .inl ⟨h1, h2, h4⟩
        · rcases h3 with h3 | ⟨h3, h3'⟩
          · exact absurd h3 h4
          · exact .inr ⟨h1, h2, ⟨h1, hlu.1, h3⟩, ⟨hlu.2, h2, h3'⟩, fun h => h4 h.2.2⟩
    have hnd : (S.P ++ pairsNew n S.P l u).Nodup := by
      rw [List.nodup_append]
      refine ⟨I.pn, ?_, ?_⟩
      · unfold pairsNew
        unfold List.Nodup
        rw [List.pairwise_flatMap]
        refine ⟨fun a _ => ?_, ?_⟩
        · rw [List.pairwise_flatMap]
          refine ⟨fun b _ => by split <;> simp, List.nodup_range.imp fun {b b'} hne => ?_⟩
          intro x hx y hy e
          split at hx <;> split at hy <;> simp at hx hy
          subst hx; subst hy
          exact hne (by simpa using e)
        · refine List.nodup_range.imp fun {a a'} hne => ?_
          intro x hx y hy e
          simp only [List.mem_flatMap] at hx hy
          obtain ⟨b, _, hx⟩ := hx
          obtain ⟨b', _, hy⟩ := hy
          split at hx <;> split at hy <;> simp at hx hy
          subst hx; subst hy
          exact hne (by simp at e; exact e.1)
      · rintro ⟨a, b⟩ ha q hq e
        subst e
        exact ((mem_pairsNew _ _ _ _ _ _).mp hq).2.2.2.2 ha
    dsimp only
    generalize S.P ++ pairsNew n S.P l u = P' at hp hnd
    have hmu : ∀ k, k < n → (mem P' u k = true ↔ WayD D u k) := fun k hk => by
      rw [mem_iff, hp, W]
      constructor
      · rintro ⟨_, _, h | ⟨_, h⟩⟩
        · exact h
        · exact h
      · intro h
        exact ⟨hlu.2, hk, .inl h⟩
    have hml : ∀ k, k < n → (mem P' k l = true ↔ WayD D k l) := fun k hk => by
      rw [mem_iff, hp, W]
      constructor
      · rintro ⟨_, _, h | ⟨h, _⟩⟩
        · exact h
        · exact h
      · intro h
        exact ⟨hk, hlu.1, .inl h⟩
    obtain ⟨fl, fln⟩ := foldLo_aux P' l u S.lo n
    obtain ⟨fu, fun'⟩ := foldUp_aux P' l u S.up n
    have lo' : ∀ k, k < n → ∀ j, j ∈ foldLo n P' l u S.lo k ↔ Low (fun x => D x ∨ x = c) k j := fun k hk j => by
      unfold foldLo
      rw [fl, I.lo k hk, I.lo l hlu.1, hmu k hk, lowEq]
      simp only [W]
      unfold Low
      constructor
      · rintro (⟨o, h, h'⟩ | ⟨_, h, o, h', h''⟩)
        · exact ⟨o, h, .inl h'⟩
        · exact ⟨o, h', .inr ⟨h'', h⟩⟩
      · rintro ⟨o, h, h' | ⟨h', h''⟩⟩
        · exact .inl ⟨o, h, h'⟩
        · exact .inr ⟨hk, h'', o, h, h'⟩
    have up' : ∀ k, k < n → ∀ j, j ∈ foldUp n P' l u S.up k ↔ Upp (fun x => D x ∨ x = c) k j := fun k hk j => by
      unfold foldUp
      rw [fu, I.up k hk, I.up u hlu.2, hml k hk, uppEq]
      simp only [W]
      unfold Upp
      constructor
      · rintro (⟨o, h, h'⟩ | ⟨_, h, o, h', h''⟩)
        · exact ⟨o, h, .inl h'⟩
        · exact ⟨o, h', .inr ⟨h, h''⟩⟩
      · rintro ⟨o, h, h' | ⟨h', h''⟩⟩
        · exact .inl ⟨o, h, h'⟩
        · exact .inr ⟨hk, h', o, h, h''⟩
    refine ⟨set_next (asks := S.asks) (L := cross (foldLo n P' l u S.lo l) (foldUp n P' l u S.up u)) hset (fun x => ?_) ?_, hnd, hp, fun k hk => fln k (I.lon k hk), lo', fun k hk => fun' k (I.upn k hk), up', fun s lt ut => ?_⟩
    · exact secs_rem fo _ _ _ _
    · exact secs_nil fo _ _ _
    · show (s, lt, ut) ∈ (secs fo _ _).2 ↔ _
      rw [secs_asks, I.asks, meetEq]
      simp only [W]
      unfold Meet
      have hcr : (lt, ut) ∈ cross (foldLo n P' l u S.lo l) (foldUp n P' l u S.up u) ↔ lt ∈ foldLo n P' l u S.lo l ∧ ut ∈ foldUp n P' l u S.up u := by
        unfold cross
        simp only [List.mem_flatMap, List.mem_map, Prod.mk.injEq]
        exact ⟨fun ⟨a, ha, b, hb, h1, h2⟩ => ⟨h1 ▸ ha, h2 ▸ hb⟩, fun ⟨h1, h2⟩ => ⟨_, h1, _, h2, rfl, rfl⟩⟩
      show s < 2 ∧ _ ∨ s < 2 ∧ (lt, ut) ∈ _ ↔ _
      rw [hcr, lo' l hlu.1, up' u hlu.2, lowEq, uppEq]
      simp only [W]
      constructor
      · rintro (⟨h, o, o', h1, h2, h3⟩ | ⟨h, ⟨o, h1, h2⟩, o', h3, h4⟩)
        · exact ⟨h, o, o', h1, h2, .inl h3⟩
        · refine ⟨h, o, o', h1, h3, .inr ⟨?_, ?_⟩⟩
          · exact h2.elim id fun h => h.1
          · exact h4.elim id fun h => h.2
      · rintro ⟨h, o, o', h1, h2, h3 | ⟨h3, h4⟩⟩
        · exact .inl ⟨h, o, o', h1, h2, h3⟩
        · exact .inr ⟨h, ⟨o, h1, .inl h3⟩, o', h2, .inl h4⟩
end

end
section
section
variable {fo : Bool} {n : Nat} {cons r : List Con} {D : Con → Prop} {S : CS} {c : Con}
theorem inv_sub {a j : Nat} (hn : 1 ≤ n) (hok : ∀ x ∈ cons, x.ok n) (hr : S.rem = r ++ [c]) (I : Inv fo n cons D S) (hc : c = (a, false, false, j)) :
    Inv fo n cons (fun x => D x ∨ x = c) (stepSub fo n { S with rem := r } a j) := by
  have hD : ∀ x, (D x ∨ x ∈ S.rem) → x.ok n := fun x hx => by
    rcases (I.set x).mp hx with h | ⟨_, _, rfl⟩
    · exact hok x h
    · exact ⟨hn, fun h => absurd h (by decide), fun _ => by decide⟩
  have hcok : c.ok n := hD c (.inr (by rw [hr]; simp))
  have ha : a < n := by rw [hc] at hcok; exact hcok.1
  have hset := I.set
  rw [hr] at hset
  have W : ∀ x y, WayD (fun x => D x ∨ x = c) x y ↔ WayD D x y := way_bound (D := D) (by rw [hc])
  have Dlow : ∀ one j, (D (one, true, false, j) ∨ (one, true, false, j) = c) ↔ D (one, true, false, j) := fun one j => ⟨fun h => h.elim id fun e => by rw [hc] at e; simp at e, .inl⟩
  have Dup : ∀ one q, (D (one, false, false, q) ∨ (one, false, false, q) = c) ↔ D (one, false, false, q) ∨ (one = a ∧ q = j) := fun one q => by rw [hc]; simp
  have lowEq : ∀ k q, Low (fun x => D x ∨ x = c) k q ↔ Low D k q := fun k q => by unfold Low; simp only [Dlow, W]
  have uppEq : ∀ k q, Upp (fun x => D x ∨ x = c) k q ↔ Upp D k q ∨ (WayD D k a ∧ q = j) := fun k q => by
    unfold Upp
    simp only [Dup, W]
    constructor
    · rintro ⟨o, h | ⟨rfl, rfl⟩, h'⟩
      · exact .inl ⟨o, h, h'⟩
      · exact .inr ⟨h', rfl⟩
    · rintro (⟨o, h, h'⟩ | ⟨h, rfl⟩)
      · exact ⟨o, .inl h, h'⟩
      · exact ⟨a, .inr ⟨rfl, rfl⟩, h⟩
  have meetEq : ∀ x y, Meet (fun x => D x ∨ x = c) x y ↔ Meet D x y ∨ (y = j ∧ Low D a x) := fun x y => by
    unfold Meet Low
    simp only [Dlow, Dup, W]
    constructor
    · rintro ⟨o, o', h, h' | ⟨rfl, rfl⟩, h''⟩
      · exact .inl ⟨o, o', h, h', h''⟩
      · exact .inr ⟨rfl, o, h, h''⟩
    · rintro (⟨o, o', h, h', h''⟩ | ⟨rfl, o, h, h'⟩)
      · exact ⟨o, o', h, .inl h', h''⟩
      · exact ⟨o, a, h, .inr ⟨rfl, rfl⟩, h'⟩
  unfold stepSub
  split
  · rename_i hm
    have hj : Upp D a j := (I.up a ha j).mp (by simpa using hm)
    obtain ⟨o, ho, hw⟩ := hj
    refine ⟨set_next (asks := S.asks) (L := []) hset (fun x => by simp) (by simp), I.pn, fun a b => ?_, I.lon, fun k hk q => ?_, I.upn, fun k hk q => ?_, fun s lt ut => ?_⟩
    · rw [W]; exact I.p a b
    · rw [lowEq]; exact I.lo k hk q
    · rw [uppEq, I.up k hk q]
      refine ⟨.inl, fun h => h.elim id ?_⟩
      rintro ⟨hx, e⟩
      subst e
      exact ⟨o, ho, hx.trans hw⟩
    · rw [meetEq, I.asks]
      refine and_congr_right fun _ => ⟨.inl, fun h => h.elim id ?_⟩
      rintro ⟨rfl, o', h, h'⟩
      exact ⟨o', o, h, ho, h'.trans hw⟩
  · rename_i hm
    obtain ⟨pu, pun⟩ := put_aux (fun l => mem S.P l a) j S.up n
    refine ⟨set_next (asks := S.asks) (L := (S.lo a).map fun x => (x, j)) hset (fun x => ?_) ?_, I.pn, fun a b => ?_, I.lon, fun k hk q => ?_, fun k hk => pun k (I.upn k hk), fun k hk q => ?_, fun s lt ut => ?_⟩
    · exact secs_rem fo _ _ _ _
    · exact secs_nil fo _ _ _
    · rw [W]; exact I.p a b
    · rw [lowEq]; exact I.lo k hk q
    · show q ∈ putUp n S.P a j S.up k ↔ _
      unfold putUp
      rw [uppEq, pu, I.up k hk q, mem_iff, I.p]
      constructor
      · rintro (h | ⟨_, h, h'⟩)
        · exact .inl h
        · exact .inr ⟨h.2.2, h'⟩
      · rintro (h | ⟨h, h'⟩)
        · exact .inl h
        · exact .inr ⟨hk, ⟨hk, ha, h⟩, h'⟩
    · show (s, lt, ut) ∈ (secs fo _ _).2 ↔ _
      rw [secs_asks, I.asks, meetEq]
      simp only [List.mem_map, Prod.mk.injEq]
      constructor
      · rintro (⟨h, h'⟩ | ⟨h, x, hx, h1, h2⟩)
        · exact ⟨h, .inl h'⟩
        · subst h1; exact ⟨h, .inr ⟨h2.symm, (I.lo a ha _).mp hx⟩⟩
      · rintro ⟨h, h' | ⟨h1, h2⟩⟩
        · exact .inl ⟨h, h'⟩
        · exact .inr ⟨h, lt, (I.lo a ha _).mpr h2, rfl, h1.symm⟩
theorem inv_sup {a j : Nat} (hn : 1 ≤ n) (hok : ∀ x ∈ cons, x.ok n) (hr : S.rem = r ++ [c]) (I : Inv fo n cons D S) (hc : c = (a, true, false, j)) :
    Inv fo n cons (fun x => D x ∨ x = c) (stepSup fo n { S with rem := r } a j) := by
  have hD : ∀ x, (D x ∨ x ∈ S.rem) → x.ok n := fun x hx => by
    rcases (I.set x).mp hx with h | ⟨_, _, rfl⟩
    · exact hok x h
    · exact ⟨hn, fun h => absurd h (by decide), fun _ => by decide⟩
  have hcok : c.ok n := hD c (.inr (by rw [hr]; simp))
  have ha : a < n := by rw [hc] at hcok; exact hcok.1
  have hset := I.set
  rw [hr] at hset
  have W : ∀ x y, WayD (fun x => D x ∨ x = c) x y ↔ WayD D x y := way_bound (D := D) (by rw [hc])
  have Dup : ∀ one j, (D (one, false, false, j) ∨ (one, false, false, j) = c) ↔ D (one, false, false, j) := fun one j => ⟨fun h => h.elim id fun e => by rw [hc] at e; simp at e, .inl⟩
  have Dlow : ∀ one q, (D (one, true, false, q) ∨ (one, true, false, q) = c) ↔ D (one, true, false, q) ∨ (one = a ∧ q = j) := fun one q => by rw [hc]; simp
  have uppEq : ∀ k q, Upp (fun x => D x ∨ x = c) k q ↔ Upp D k q := fun k q => by unfold Upp; simp only [Dup, W]
  have lowEq : ∀ k q, Low (fun x => D x ∨ x = c) k q ↔ Low D k q ∨ (WayD D a k ∧ q = j) := fun k q => by
    unfold Low
    simp only [Dlow, W]
    constructor
    · rintro ⟨o, h | ⟨rfl, rfl⟩, h'⟩
      · exact .inl ⟨o, h, h'⟩
      · exact .inr ⟨h', rfl⟩
    · rintro (⟨o, h, h'⟩ | ⟨h, rfl⟩)
      · exact ⟨o, .inl h, h'⟩
      · exact ⟨a, .inr ⟨rfl, rfl⟩, h⟩
  have meetEq : ∀ x y, Meet (fun x => D x ∨ x = c) x y ↔ Meet D x y ∨ (x = j ∧ Upp D a y) := fun x y => by
    unfold Meet Upp
    simp only [Dlow, Dup, W]
    constructor
    · rintro ⟨o, o', h | ⟨rfl, rfl⟩, h', h''⟩
      · exact .inl ⟨o, o', h, h', h''⟩
      · exact .inr ⟨rfl, o', h', h''⟩
    · rintro (⟨o, o', h, h', h''⟩ | ⟨rfl, o, h, h'⟩)
      · exact ⟨o, o', .inl h, h', h''⟩
      · exact ⟨a, o, .inr ⟨rfl, rfl⟩, h, h'⟩
  unfold stepSup
  split
  · rename_i hm
    have hj : Low D a j := (I.lo a ha j).mp (by simpa using hm)
    obtain ⟨o, ho, hw⟩ := hj
    refine ⟨set_next (asks := S.asks) (L := []) hset (fun x => by simp) (by simp), I.pn, fun a b => ?_, I.lon, fun k hk q => ?_, I.upn, fun k hk q => ?_, fun s lt ut => ?_⟩
    · rw [W]; exact I.p a b
    · rw [lowEq, I.lo k hk q]
      refine ⟨.inl, fun h => h.elim id ?_⟩
      rintro ⟨hx, e⟩
      subst e
      exact ⟨o, ho, hw.trans hx⟩
    · rw [uppEq]; exact I.up k hk q
    · rw [meetEq, I.asks]
      refine and_congr_right fun _ => ⟨.inl, fun h => h.elim id ?_⟩
      rintro ⟨rfl, o', h, h'⟩
      exact ⟨o, o', ho, h, hw.trans h'⟩
  · rename_i hm
    obtain ⟨pu, pun⟩ := put_aux (fun l => mem S.P a l) j S.lo n
    refine ⟨set_next (asks := S.asks) (L := (S.up a).map fun x => (j, x)) hset (fun x => ?_) ?_, I.pn, fun a b => ?_, fun k hk => pun k (I.lon k hk), fun k hk q => ?_, I.upn, fun k hk q => ?_, fun s lt ut => ?_⟩
    · exact secs_rem fo _ _ _ _
    · exact secs_nil fo _ _ _
    · rw [W]; exact I.p a b
    · show q ∈ putLo n S.P a j S.lo k ↔ _
      unfold putLo
      rw [lowEq, pu, I.lo k hk q, mem_iff, I.p]
      constructor
      · rintro (h | ⟨_, h, h'⟩)
        · exact .inl h
        · exact .inr ⟨h.2.2, h'⟩
      · rintro (h | ⟨h, h'⟩)
        · exact .inl h
        · exact .inr ⟨hk, ⟨ha, hk, h⟩, h'⟩
    · rw [uppEq]; exact I.up k hk q
    · show (s, lt, ut) ∈ (secs fo _ _).2 ↔ _
      rw [secs_asks, I.asks, meetEq]
      simp only [List.mem_map, Prod.mk.injEq]
      constructor
      · rintro (⟨h, h'⟩ | ⟨h, x, hx, h1, h2⟩)
        · exact ⟨h, .inl h'⟩
        · subst h2; exact ⟨h, .inr ⟨h1.symm, (I.up a ha _).mp hx⟩⟩
      · rintro ⟨h, h' | ⟨h1, h2⟩⟩
        · exact .inl ⟨h, h'⟩
        · exact .inr ⟨h, ut, (I.up a ha _).mpr h2, h1.symm, rfl⟩
theorem inv_step (hn : 1 ≤ n) (hok : ∀ x ∈ cons, x.ok n) (hr : S.rem = r ++ [c]) (I : Inv fo n cons D S) : Inv fo n cons (fun x => D x ∨ x = c) (step fo n { S with rem := r } c) := by
  obtain ⟨a, sup, v, j⟩ := c
  unfold step
  cases v <;> cases sup <;> simp only [Bool.false_eq_true, if_true, if_false]
  · exact inv_sub hn hok hr I rfl
  · exact inv_sup hn hok hr I rfl
  · exact inv_var hn hok hr I (.inl rfl)
  · exact inv_var hn hok hr I (.inr rfl)
theorem inv_run (hn : 1 ≤ n) (hok : ∀ x ∈ cons, x.ok n) {S S' : CS} (h : Run fo n S S') : ∀ D, Inv fo n cons D S → ∃ D', Inv fo n cons D' S' ∧ S'.rem = [] := by
  induction h with
  | done h => exact fun D I => ⟨D, I, h⟩
  | next hr _ ih => exact fun D I => ih _ (inv_step hn hok hr I)
theorem inv_start (n : Nat) (cons : List Con) : Inv fo n cons (fun _ => False) (start n cons) := by
  have hW : ∀ a b, WayD (fun _ => False) a b ↔ a = b := fun a b => by
    constructor
    · intro h
      induction h with
      | refl => rfl
      | step _ e _ => rcases e with e | e <;> exact e.elim
    · rintro rfl; exact .refl _
  refine ⟨fun x => ?_, ?_, fun a b => ?_, fun _ _ => List.nodup_nil, fun k _ j => ?_, fun _ _ => List.nodup_nil, fun k _ j => ?_, fun s lt ut => ?_⟩
  · show False ∨ x ∈ dedup cons ↔ _
    rw [mem_dedup]
    simp [start]
  · show ((List.range n).map fun j => (j, j)).Nodup
    unfold List.Nodup
    rw [List.pairwise_map]
    exact List.nodup_range.imp fun h e => h (Prod.mk.inj e).1
  · show (a, b) ∈ (List.range n).map (fun j => (j, j)) ↔ _
    rw [hW]
    simp only [List.mem_map, List.mem_range, Prod.mk.injEq]
    exact ⟨fun ⟨x, h, h1, h2⟩ => ⟨h1 ▸ h, h2 ▸ h, h1.symm.trans h2⟩, fun ⟨h1, _, h3⟩ => ⟨a, h1, rfl, h3⟩⟩
  · show j ∈ [] ↔ _
    unfold Low; simp
  · show j ∈ [] ↔ _
    unfold Upp; simp
  · show (s, lt, ut) ∈ [] ↔ _
    unfold Meet; simp
end
/-- all constraints that count in the end -/
def allCons (fo : Bool) (cons : List Con) (asks : List Ask) (c : Con) : Prop := c ∈ cons ∨ (fo = true ∧ asks ≠ [] ∧ c = fup)
structure Ends (fo : Bool) (n : Nat) (cons : List Con) (S : CS) : Prop where
  pn : S.P.Nodup
  p : ∀ a b, (a, b) ∈ S.P ↔ a < n ∧ b < n ∧ WayD (· ∈ cons) a b
  lon : ∀ k, k < n → (S.lo k).Nodup
  lo : ∀ k, k < n → ∀ j, j ∈ S.lo k ↔ ∃ one, (one, true, false, j) ∈ cons ∧ WayD (· ∈ cons) one k
  upn : ∀ k, k < n → (S.up k).Nodup
  up : ∀ k, k < n → ∀ j, j ∈ S.up k ↔ ∃ one, allCons fo cons S.asks (one, false, false, j) ∧ WayD (· ∈ cons) k one
  asks : ∀ s lt ut, (s, lt, ut) ∈ S.asks ↔ s < 2 ∧ ∃ one other, (one, true, false, lt) ∈ cons ∧ allCons fo cons S.asks (other, false, false, ut) ∧ WayD (· ∈ cons) one other
theorem run_ends {fo : Bool} {n : Nat} {cons : List Con} {S : CS} (hn : 1 ≤ n) (hok : ∀ x ∈ cons, x.ok n) (h : Run fo n (start n cons) S) : Ends fo n cons S := by
  obtain ⟨D, I, hrem⟩ := inv_run hn hok h _ (inv_start n cons)
  have hD : ∀ c, D c ↔ allCons fo cons S.asks c := fun c => by
    have := I.set c
    rw [hrem] at this
    unfold allCons
    simpa using this
  have hv : ∀ a s b, D (a, s, true, b) ↔ (a, s, true, b) ∈ cons := fun a s b => by
    rw [hD]; unfold allCons fup; simp
  have hl : ∀ a b, D (a, true, false, b) ↔ (a, true, false, b) ∈ cons := fun a b => by
    rw [hD]; unfold allCons fup; simp
  have W : ∀ a b, WayD D a b ↔ WayD (· ∈ cons) a b := fun a b => Way.congr fun a b => by unfold edge; rw [hv, hv]
  refine ⟨I.pn, fun a b => ?_, I.lon, fun k hk j => ?_, I.upn, fun k hk j => ?_, fun s lt ut => ?_⟩
  · rw [I.p, W]
  · rw [I.lo k hk]; unfold Low; simp only [hl, W]
  · rw [I.up k hk]; unfold Upp; simp only [hD, W]
  · rw [I.asks]; unfold Meet; simp only [hl, hD, W]

end
section
/-- ways by told pairs -/
abbrev WayL (ps : List Pr) (a b : Nat) : Prop := Way (fun x y => (x, y) ∈ ps) a b
def bfsNew (ps : List Pr) (f : List Nat) (x : Nat) : List Nat := (ps.filter fun p => p.1 == x && !f.contains p.2).map (·.2)
structure Bfs (ps : List Pr) (k n : Nat) (f : List Nat) (j : Nat) : Prop where
  st : k ∈ f
  lt : ∀ b ∈ f, b < n
  way : ∀ b ∈ f, WayL ps k b
  cl : ∀ i x, i < j → f[i]? = some x → ∀ y, (x, y) ∈ ps → y ∈ f
  jl : j ≤ f.length
def distinct (n : Nat) (f : List Nat) : Nat := ((List.range n).filter fun b => f.contains b).length
theorem distinct_le (n : Nat) (f : List Nat) : distinct n f ≤ n := Nat.le_trans (List.length_filter_le _ _) (by rw [List.length_range]; exact Nat.le_refl _)
theorem filter_length_lt {α : Type} {p q : α → Bool} : ∀ {l : List α}, (∀ x ∈ l, p x = true → q x = true) → (∃ x ∈ l, p x = false ∧ q x = true) → (l.filter p).length < (l.filter q).length
  | [], _, h => by obtain ⟨x, hx, _⟩ := h; cases hx
  | a :: l, hpq, h => by
    have le : ∀ (l : List α), (∀ x ∈ l, p x = true → q x = true) → (l.filter p).length ≤ (l.filter q).length := by
      intro l
      induction l with
      | nil => intro _; exact Nat.le_refl _
      | cons b l ih =>
        intro hh
        have ih := ih fun x hx => hh x (List.mem_cons_of_mem _ hx)
        by_cases hb : p b = true
        · rw [List.filter_cons_of_pos hb, List.filter_cons_of_pos (hh b List.mem_cons_self hb)]; simp; exact ih
        · rw [List.filter_cons_of_neg hb]
          by_cases hq : q b = true
          · rw [List.filter_cons_of_pos hq]; simp; omega
          · rw [List.filter_cons_of_neg hq]; exact ih
    obtain ⟨x, hx, h1, h2⟩ := h
    rcases List.mem_cons.mp hx with e | hx
    · subst e
      rw [List.filter_cons_of_neg (by rw [h1]; decide), List.filter_cons_of_pos h2]
      have := le l fun x hx => hpq x (List.mem_cons_of_mem _ hx)
      simp; omega
    · have ih := filter_length_lt (l := l) (fun x hx => hpq x (List.mem_cons_of_mem _ hx)) ⟨x, hx, h1, h2⟩
      by_cases hp : p a = true
      · rw [List.filter_cons_of_pos hp, List.filter_cons_of_pos (hpq a List.mem_cons_self hp)]; simp; exact ih
      · rw [List.filter_cons_of_neg hp]
        by_cases hq : q a = true
        · rw [List.filter_cons_of_pos hq]; simp; omega
        · rw [List.filter_cons_of_neg hq]; exact ih
theorem mem_bfsNew {ps : List Pr} {f : List Nat} {x y : Nat} : y ∈ bfsNew ps f x ↔ (x, y) ∈ ps ∧ y ∉ f := by
  unfold bfsNew
  simp only [List.mem_map, List.mem_filter, Bool.and_eq_true, beq_iff_eq, Bool.not_eq_true', List.contains_eq_mem, decide_eq_false_iff_not]
  constructor
  · rintro ⟨⟨a, b⟩, ⟨h1, h2, h3⟩, rfl⟩
    dsimp only at h2 h3
    subst h2
    exact ⟨h1, h3⟩
  · rintro ⟨h1, h2⟩
    exact ⟨(x, y), ⟨h1, rfl, h2⟩, rfl⟩
theorem bfsNew_len (ps : List Pr) (f : List Nat) (x : Nat) : (bfsNew ps f x).length ≤ ps.length := by
  unfold bfsNew; rw [List.length_map]; exact List.length_filter_le _ _
theorem Bfs.step {ps : List Pr} {k n : Nat} {f : List Nat} {j x : Nat} (B : Bfs ps k n f j) (hps : ∀ p ∈ ps, p.2 < n) (hx : f[j]? = some x) : Bfs ps k n (f ++ bfsNew ps f x) (j + 1) := by
  have hxm := List.mem_of_getElem? hx
  have hj := (List.getElem?_eq_some_iff.mp hx).1
  refine ⟨List.mem_append_left _ B.st, fun b hb => ?_, fun b hb => ?_, fun i z hi hz y hy => ?_, by rw [List.length_append]; omega⟩
  · rcases List.mem_append.mp hb with h | h
    · exact B.lt b h
    · exact hps _ (mem_bfsNew.mp h).1
  · rcases List.mem_append.mp hb with h | h
    · exact B.way b h
    · exact (B.way x hxm).step (mem_bfsNew.mp h).1
  · rw [List.getElem?_append_left (by omega)] at hz
    by_cases hij : i = j
    · subst hij
      rw [hx] at hz
      cases hz
      by_cases hyf : y ∈ f
      · exact List.mem_append_left _ hyf
      · exact List.mem_append_right _ (mem_bfsNew.mpr ⟨hy, hyf⟩)
    · exact List.mem_append_left _ (B.cl i z (by omega) hz y hy)
theorem Bfs.final {ps : List Pr} {k n : Nat} {f : List Nat} {j : Nat} (B : Bfs ps k n f j) (hj : f.length ≤ j) (b : Nat) : b ∈ f ↔ WayL ps k b := by
  refine ⟨B.way b, fun h => ?_⟩
  induction h with
  | refl => exact B.st
  | step _ e ih =>
    obtain ⟨i, hi⟩ := List.mem_iff_getElem?.mp ih
    have := (List.getElem?_eq_some_iff.mp hi).1
    exact B.cl i _ (by omega) hi _ e
/-- a turn takes from this -/
def bfsM (n : Nat) (f : List Nat) (j : Nat) : Nat := (n - distinct n f) * 9 + (f.length - j)
theorem bfsM_step {ps : List Pr} {n : Nat} {f : List Nat} {j x : Nat} (hps : ∀ p ∈ ps, p.2 < n) (h8 : ps.length ≤ 8) (hj : j < f.length) : bfsM n (f ++ bfsNew ps f x) (j + 1) < bfsM n f j := by
  unfold bfsM
  have hlen := bfsNew_len ps f x
  rw [List.length_append]
  by_cases he : bfsNew ps f x = []
  · rw [he, List.append_nil]; simp; omega
  · obtain ⟨y, hy⟩ := List.exists_mem_of_ne_nil _ he
    obtain ⟨h1, h2⟩ := mem_bfsNew.mp hy
    have hlt : distinct n f < distinct n (f ++ bfsNew ps f x) := by
      unfold distinct
      refine filter_length_lt (fun z _ hz => ?_) ⟨y, List.mem_range.mpr (hps _ h1), by simpa using h2, by simpa using Or.inr hy⟩
      simp only [List.contains_eq_mem, decide_eq_true_eq, List.mem_append] at hz ⊢
      exact .inl hz
    have hle := distinct_le n (f ++ bfsNew ps f x)
    omega
theorem bfs_start {ps : List Pr} {k n : Nat} (hk : k < n) : Bfs ps k n [k] 0 :=
  ⟨by simp, fun b hb => by simp at hb; omega, fun b hb => by simp at hb; subst hb; exact .refl _, fun i x hi => by omega, by simp⟩
theorem bfs_len_step {ps : List Pr} {n : Nat} {f : List Nat} {x : Nat} (hps : ∀ p ∈ ps, p.2 < n) (h8 : ps.length ≤ 8) (h : f.length ≤ 9 * distinct n f) : (f ++ bfsNew ps f x).length ≤ 9 * distinct n (f ++ bfsNew ps f x) := by
  have hlen := bfsNew_len ps f x
  rw [List.length_append]
  by_cases he : bfsNew ps f x = []
  · rw [he, List.append_nil]; simp; exact h
  · obtain ⟨y, hy⟩ := List.exists_mem_of_ne_nil _ he
    obtain ⟨h1, h2⟩ := mem_bfsNew.mp hy
    have hlt : distinct n f < distinct n (f ++ bfsNew ps f x) := by
      unfold distinct
      refine filter_length_lt (fun z _ hz => ?_) ⟨y, List.mem_range.mpr (hps _ h1), by simpa using h2, by simpa using Or.inr hy⟩
      simp only [List.contains_eq_mem, decide_eq_true_eq, List.mem_append] at hz ⊢
      exact .inl hz
    omega

end
section
/-- a tree of questions, all of places below n, answered by lt, ends within P -/
def KOk {α : Type} (lt : Nat → Nat → Bool) (n : Nat) : KasT α → (α → Prop) → Prop
  | .ret a, P => P a
  | .ask i j k, P => i < n ∧ j < n ∧ KOk lt n (k (lt i j)) P
theorem KOk.bind {α β : Type} {lt : Nat → Nat → Bool} {n : Nat} {f : α → KasT β} {P : β → Prop} : ∀ {t : KasT α}, KOk lt n t (fun a => KOk lt n (f a) P) → KOk lt n (t.bind f) P
  | .ret _, h => h
  | .ask _ _ _, ⟨h1, h2, h3⟩ => ⟨h1, h2, KOk.bind h3⟩
theorem KOk.mono {α : Type} {lt : Nat → Nat → Bool} {n : Nat} {P P' : α → Prop} (hP : ∀ a, P a → P' a) : ∀ {t : KasT α}, KOk lt n t P → KOk lt n t P'
  | .ret _, h => hP _ h
  | .ask _ _ _, ⟨h1, h2, h3⟩ => ⟨h1, h2, KOk.mono hP h3⟩
theorem KOk.wp {α : Type} {lt : Nat → Nat → Bool} {n : Nat} {P : α → Prop} {cmp : Nat → Nat → (Bool → Shared → Prop) → Shared → Prop} {I : Shared → Prop} {Q : α → Shared → Prop}
    (hc : ∀ i j C s, i < n → j < n → I s → (∀ s', I s' → C (lt i j) s') → cmp i j C s) (hQ : ∀ a s, P a → I s → Q a s) : ∀ {t : KasT α} {s : Shared}, KOk lt n t P → I s → t.kasWp cmp Q s
  | .ret _, s, h, hI => hQ _ s h hI
  | .ask i j k, s, ⟨h1, h2, h3⟩, hI => hc i j _ s h1 h2 hI fun s' hI' => KOk.wp hc hQ h3 hI'
section
variable {O : KeyOrd} {key : Nat → O.α} {n : Nat}
abbrev ltOf (O : KeyOrd) (key : Nat → O.α) (i j : Nat) : Bool := O.blt (key i) (key j)
def KP (key : Nat → O.α) (p : Array Nat) (i : Nat) : O.α := key (p.getD i 0)
structure PermOf (n : Nat) (p : Array Nat) : Prop where
  perm : p.toList.Perm (List.range n)
theorem PermOf.size {p : Array Nat} (h : PermOf n p) : p.size = n := by have := h.perm.length_eq; simpa using this
theorem PermOf.lt {p : Array Nat} (h : PermOf n p) {i : Nat} (hi : i < n) : p.getD i 0 < n := by
  have hs := h.size
  have e : p.getD i 0 = p[i] := by simp [Array.getD, hs, hi]
  rw [e]
  have : p[i] ∈ p.toList := by simp
  exact List.mem_range.mp (h.perm.mem_iff.mp this)
theorem PermOf.rev {p : Array Nat} (h : PermOf n p) (i j : Nat) : PermOf n (kas_rev p i j) := ⟨(Array.perm_iff_toList_perm.mp (mirror_perm p i j _)).trans h.perm⟩
theorem PermOf.bub {p : Array Nat} (h : PermOf n p) (k d : Nat) : PermOf n (bubble p k d) := ⟨(Array.perm_iff_toList_perm.mp (bubble_perm p k d)).trans h.perm⟩
theorem KP_congr {p q : Array Nat} {i j : Nat} (h : p[i]? = q[j]?) : KP key p i = KP key q j := by
  unfold KP; rw [Array.getD_eq_getD_getElem?, Array.getD_eq_getD_getElem?, h]
theorem KP_rev {p : Array Nat} {i j : Nat} (hj : j ≤ p.size) (k : Nat) : KP key (kas_rev p i j) k = if i ≤ k ∧ k < j then KP key p (i + j - 1 - k) else KP key p k := by
  have e := getElem?_mirror_all (i := i) hj k
  by_cases h1 : i ≤ k ∧ k < j
  · rw [if_pos h1] at e ⊢; exact KP_congr e
  · rw [if_neg h1] at e ⊢; exact KP_congr e
theorem KP_bub {p : Array Nat} {src d : Nat} (hs : src < p.size) (hd : d ≤ src) (k : Nat) :
    KP key (bubble p src d) k = if k = src - d then KP key p src else if src - d < k ∧ k ≤ src then KP key p (k - 1) else KP key p k := by
  have e := getElem?_bubble hs d hd k
  by_cases h1 : k = src - d
  · rw [if_pos h1] at e ⊢; exact KP_congr e
  · rw [if_neg h1] at e ⊢
    by_cases h2 : src - d < k ∧ k ≤ src
    · rw [if_pos h2] at e ⊢; exact KP_congr e
    · rw [if_neg h2] at e ⊢; exact KP_congr e
def SortedP (key : Nat → O.α) (p : Array Nat) (k : Nat) : Prop := ∀ i j, i ≤ j → j < k → O.kle (KP key p i) (KP key p j)
def FallsP (key : Nat → O.α) (p : Array Nat) (k : Nat) : Prop := ∀ i j, i ≤ j → j < k → O.kle (KP key p j) (KP key p i)
theorem SortedP.more {p : Array Nat} {k : Nat} (h : SortedP key p k) (hk : 1 ≤ k) (hn : O.kle (KP key p (k - 1)) (KP key p k)) : SortedP key p (k + 1) := fun i j hij hj => by
  by_cases e : j < k
  · exact h i j hij e
  · have : j = k := by omega
    subst this
    by_cases e' : i = j
    · subst e'; exact KeyOrd.kle_refl _
    · exact KeyOrd.kle_trans (h i (j - 1) (by omega) (by omega)) hn
theorem FallsP.more {p : Array Nat} {k : Nat} (h : FallsP key p k) (hk : 1 ≤ k) (hn : O.kle (KP key p k) (KP key p (k - 1))) : FallsP key p (k + 1) := fun i j hij hj => by
  by_cases e : j < k
  · exact h i j hij e
  · have : j = k := by omega
    subst this
    by_cases e' : i = j
    · subst e'; exact KeyOrd.kle_refl _
    · exact KeyOrd.kle_trans hn (h i (j - 1) (by omega) (by omega))
theorem ok_asc {p : Array Nat} (hp : PermOf n p) : ∀ (f k : Nat), 1 ≤ k → k + f = n → SortedP key p k → KOk (ltOf O key) n (kas_asc p f k) fun m => k ≤ m ∧ m ≤ n ∧ SortedP key p m ∧ (m < n → O.klt (KP key p m) (KP key p (m - 1)))
  | 0, k, _, hf, hs => ⟨Nat.le_refl _, by omega, hs, fun h => by omega⟩
  | f + 1, k, hk, hf, hs => by
    refine ⟨hp.lt (by omega), hp.lt (by omega), ?_⟩
    cases e : ltOf O key (p.getD k 0) (p.getD (k - 1) 0) with
    | true => exact ⟨Nat.le_refl _, by omega, hs, fun _ => e⟩
    | false => exact (ok_asc hp f (k + 1) (by omega) (by omega) (hs.more hk e)).mono fun m h => ⟨by omega, h.2⟩
theorem ok_desc : ∀ (f : Nat) (p : Array Nat) (k q : Nat), PermOf n p → 1 ≤ k → k + f = n → q + 1 ≤ k → FallsP key p k → (∀ i, k - (q + 1) ≤ i → i < k → KP key p i = KP key p (k - 1)) →
    KOk (ltOf O key) n (kas_desc f p k q) fun r => PermOf n r.1 ∧ 1 ≤ r.2.1 ∧ r.2.1 ≤ n ∧ r.2.2 + 1 ≤ r.2.1 ∧ FallsP key r.1 r.2.1 ∧ (∀ i, r.2.1 - (r.2.2 + 1) ≤ i → i < r.2.1 → KP key r.1 i = KP key r.1 (r.2.1 - 1))
  | 0, p, k, q, hp, hk, hf, hq, hs, he => ⟨hp, hk, (show k ≤ n by omega), hq, hs, he⟩
  | f + 1, p, k, q, hp, hk, hf, hq, hs, he => by
    refine ⟨hp.lt (by omega), hp.lt (by omega), ?_⟩
    cases e : ltOf O key (p.getD k 0) (p.getD (k - 1) 0) with
    | true =>
      have hle : O.kle (KP key p k) (KP key p (k - 1)) := KeyOrd.kle_of_klt e
      have hs' := hs.more hk hle
      simp only [if_true]
      split
      · have hsz := hp.size
        have hK : ∀ i, KP key (kas_rev p (k - (q + 1)) k) i = KP key p i := fun i => by
          rw [KP_rev (by omega)]
          split
          · rename_i h
            rw [he _ (by omega) (by omega), he i h.1 h.2]
          · rfl
        refine ok_desc f _ (k + 1) 0 (hp.rev _ _) (by omega) (by omega) (by omega) (fun i j hij hj => by rw [hK, hK]; exact hs' i j hij hj) (fun i h1 h2 => ?_)
        have : i = k + 1 - 1 := by omega
        rw [this]
      · refine ok_desc f p (k + 1) 0 hp (by omega) (by omega) (by omega) hs' (fun i h1 h2 => ?_)
        have : i = k + 1 - 1 := by omega
        rw [this]
    | false =>
      simp only [Bool.false_eq_true, if_false]
      refine ⟨hp.lt (by omega), hp.lt (by omega), ?_⟩
      cases e' : ltOf O key (p.getD (k - 1) 0) (p.getD k 0) with
      | true => exact ⟨hp, hk, (show k ≤ n by omega), hq, hs, he⟩
      | false =>
        have heq : KP key p k = KP key p (k - 1) := KeyOrd.kle_antisymm e' e
        simp only [Bool.false_eq_true, if_false]
        refine ok_desc f p (k + 1) (q + 1) hp (by omega) (by omega) (by omega) (hs.more hk e') (fun i h1 h2 => ?_)
        show KP key p i = KP key p k
        by_cases hik : i = k
        · rw [hik]
        · rw [heq]; exact he i (by omega) (by omega)
theorem ok_tail3 {p : Array Nat} {k : Nat} (hp : PermOf n p) (hk : 1 ≤ k) (hkn : k ≤ n) (hs : FallsP key p k) : KOk (ltOf O key) n (kas_tail3 k n p) fun r => PermOf n r.2 ∧ 1 ≤ r.1 ∧ r.1 ≤ n ∧ SortedP key r.2 r.1 := by
  unfold kas_tail3
  refine KOk.bind ?_
  have hsz := hp.size
  refine (ok_asc (hp.rev 0 k) (n - k) k hk (by omega) (fun i j hij hj => ?_)).mono fun m h => ⟨hp.rev 0 k, by omega, h.2.1, h.2.2.1⟩
  rw [KP_rev (by omega), KP_rev (by omega), if_pos ⟨by omega, by omega⟩, if_pos ⟨by omega, by omega⟩]
  exact hs _ _ (by omega) (by omega)
theorem ok_descPart {p : Array Nat} {k : Nat} (hp : PermOf n p) (hk : 1 ≤ k) (hkn : k < n) (hs : FallsP key p (k + 1)) : KOk (ltOf O key) n (kas_descPart k n p) fun r => PermOf n r.2 ∧ 1 ≤ r.1 ∧ r.1 ≤ n ∧ SortedP key r.2 r.1 := by
  unfold kas_descPart
  refine KOk.bind ?_
  refine (ok_desc (n - (k + 1)) p (k + 1) 0 hp (by omega) (by omega) (by omega) hs (fun i h1 h2 => by
    have : i = k + 1 - 1 := by omega
    rw [this])).mono fun r h => ?_
  obtain ⟨h1, h2, h3, h4, h5, h6⟩ := h
  split
  · have hsz := h1.size
    have hK : ∀ i, KP key (kas_rev r.1 (r.2.1 - (r.2.2 + 1)) r.2.1) i = KP key r.1 i := fun i => by
      rw [KP_rev (by omega)]
      split
      · rename_i h
        rw [h6 _ (by omega) (by omega), h6 i h.1 h.2]
      · rfl
    exact ok_tail3 (h1.rev _ _) h2 h3 (fun i j hij hj => by rw [hK, hK]; exact h5 i j hij hj)
  · exact ok_tail3 h1 h2 h3 h5
theorem ok_count {p : Array Nat} (hp : PermOf n p) (hn : 1 ≤ n) : KOk (ltOf O key) n (kas_count n p) fun r => PermOf n r.2 ∧ 1 ≤ r.1 ∧ r.1 ≤ n ∧ SortedP key r.2 r.1 := by
  unfold kas_count
  refine KOk.bind ?_
  refine (ok_asc hp (n - 1) 1 (Nat.le_refl _) (by omega) (fun i j hij hj => by
    have : i = j := by omega
    rw [this]; exact KeyOrd.kle_refl _)).mono fun m h => ?_
  obtain ⟨h1, h2, h3, h4⟩ := h
  by_cases e : m = n
  · subst e
    rw [if_pos (by simp)]
    exact ⟨hp, h1, Nat.le_refl _, h3⟩
  · rw [if_neg (by simpa using e)]
    have hlt : m < n := by omega
    have hd := h4 hlt
    split
    · refine ⟨hp.lt (by omega), hp.lt (by omega), ?_⟩
      cases e' : ltOf O key (p.getD 0 0) (p.getD (m - 1) 0) with
      | true => exact ⟨hp, h1, h2, h3⟩
      | false =>
        simp only [Bool.false_eq_true, if_false]
        have hsz := hp.size
        have heq : ∀ i, i < m → KP key p i = KP key p (m - 1) := fun i hi => KeyOrd.kle_antisymm (h3 i (m - 1) (by omega) (by omega)) (KeyOrd.kle_trans e' (h3 0 i (by omega) hi))
        have hK : ∀ i, KP key (kas_rev p 0 m) i = KP key p i := fun i => by
          rw [KP_rev (by omega)]
          split
          · rename_i h
            rw [heq _ (by omega), heq i h.2]
          · rfl
        refine ok_descPart (hp.rev _ _) h1 hlt (fun i j hij hj => ?_)
        rw [hK, hK]
        by_cases hjm : j = m
        · subst hjm
          by_cases hij' : i = j
          · subst hij'; exact KeyOrd.kle_refl _
          · rw [heq i (by omega)]; exact KeyOrd.kle_of_klt hd
        · rw [heq i (by omega), heq j (by omega)]; exact KeyOrd.kle_refl _
    · have hm1 : m = 1 := by omega
      subst hm1
      refine ok_descPart hp h1 hlt (fun i j hij hj => ?_)
      by_cases hij' : i = j
      · subst hij'; exact KeyOrd.kle_refl _
      · have h0 : i = 0 := by omega
        have h01 : j = 1 := by omega
        subst h0; subst h01
        exact KeyOrd.kle_of_klt hd
theorem ok_place {p : Array Nat} {k : Nat} (hp : PermOf n p) (hk : k < n) (hs : SortedP key p k) : ∀ (f l r : Nat), l ≤ r → r ≤ k → r - l ≤ f → (∀ i, i < l → O.kle (KP key p i) (KP key p k)) → (∀ i, r ≤ i → i < k → O.klt (KP key p k) (KP key p i)) →
    KOk (ltOf O key) n (kas_place p k f l r) fun m => m ≤ k ∧ (∀ i, i < m → O.kle (KP key p i) (KP key p k)) ∧ (∀ i, m ≤ i → i < k → O.klt (KP key p k) (KP key p i))
  | 0, l, r, hlr, hr, hf, h1, h2 => by
    have : l = r := by omega
    subst this
    exact ⟨hr, h1, h2⟩
  | f + 1, l, r, hlr, hr, hf, h1, h2 => by
    unfold kas_place
    split
    · have : l = r := by omega
      subst this
      exact ⟨hr, h1, h2⟩
    · refine ⟨hp.lt hk, hp.lt (by omega), ?_⟩
      cases e : ltOf O key (p.getD k 0) (p.getD ((l + r) / 2) 0) with
      | true =>
        simp only [if_true]
        exact ok_place hp hk hs f l ((l + r) / 2) (by omega) (by omega) (by omega) h1 (fun i hi hik => KeyOrd.klt_of_klt_of_kle e (hs _ _ hi hik))
      | false =>
        simp only [Bool.false_eq_true, if_false]
        exact ok_place hp hk hs f ((l + r) / 2 + 1) r (by omega) hr (by omega) (fun i hi => KeyOrd.kle_trans (hs i ((l + r) / 2) (by omega) (by omega)) e) h2
theorem ok_bin : ∀ (f : Nat) (p : Array Nat) (k : Nat), PermOf n p → 1 ≤ k → k + f = n → SortedP key p k → KOk (ltOf O key) n (kas_bin f p k) fun r => PermOf n r ∧ SortedP key r n
  | 0, p, k, hp, hk, hf, hs => ⟨hp, (show k = n by omega) ▸ hs⟩
  | f + 1, p, k, hp, hk, hf, hs => by
    unfold kas_bin
    refine KOk.bind ?_
    refine (ok_place hp (by omega) hs k 0 k (by omega) (Nat.le_refl _) (by omega) (fun i hi => by omega) (fun i h1 h2 => by omega)).mono fun l h => ?_
    obtain ⟨hl, h1, h2⟩ := h
    have hsz := hp.size
    refine ok_bin f _ (k + 1) (hp.bub _ _) (by omega) (by omega) fun i j hij hj => ?_
    have e : k - (k - l) = l := by omega
    rw [KP_bub (by omega) (by omega), KP_bub (by omega) (by omega), e]
    by_cases hi : i = l
    · rw [if_pos hi]
      by_cases hj' : j = l
      · rw [if_pos hj']; exact KeyOrd.kle_refl _
      · rw [if_neg hj', if_pos ⟨by omega, by omega⟩]
        exact KeyOrd.kle_of_klt (h2 _ (by omega) (by omega))
    · rw [if_neg hi]
      by_cases hi2 : l < i ∧ i ≤ k
      · rw [if_pos hi2, if_neg (by omega), if_pos ⟨by omega, by omega⟩]
        exact hs _ _ (by omega) (by omega)
      · rw [if_neg hi2]
        by_cases hj' : j = l
        · rw [if_pos hj']; exact h1 i (by omega)
        · rw [if_neg hj']
          by_cases hj2 : l < j ∧ j ≤ k
          · rw [if_pos hj2]; exact hs _ _ (by omega) (by omega)
          · rw [if_neg hj2]; exact hs _ _ hij (by omega)
theorem ok_sort (hn : 1 ≤ n) : KOk (ltOf O key) n (kas_sort n) fun r => PermOf n r ∧ SortedP key r n := by
  unfold kas_sort
  refine KOk.bind ?_
  refine (ok_count ⟨by simp⟩ hn).mono fun r h => ?_
  obtain ⟨h1, h2, h3, h4⟩ := h
  split
  · have e : max r.1 1 = r.1 := by omega
    rw [e]
    exact ok_bin _ _ _ h1 h2 (by omega) h4
  · have : r.1 = n := by omega
    rw [this] at h4
    exact ⟨h1, h4⟩
end

end
local macro_rules | `(tactic| dl_mem) => `(tactic| first | assumption | exact put_self _ _ _ | (refine (put_other _ _ ?hne).trans ?hh; (case hh => dl_mem); (case hne => decide)))
local macro_rules | `(tactic| dl_mem) => `(tactic| first | with_reducible assumption | with_reducible exact put_self _ _ _ | ((with_reducible refine' (put_other _ _ ?hne).trans ?hh); (case hh => dl_mem); (case hne => decide)))
local macro_rules | `(tactic| dl_step) => `(tactic| first | rfl | assumption | (refine (if_neg ?hn).trans ?hh; (case hh => dl_step); (case hn => decide)))
local macro_rules | `(tactic| dl_step) => `(tactic| first | with_reducible assumption | (with_reducible refine' (if_neg ?hn).trans ?hh; (case hh => dl_step); (case hn => decide)) | rfl)
section
section
variable {prog : Program} {w : World} {A : Around} {E : Value → Shared → Prop} {s₀ s : Shared} {R Z B : View} {V : Dyn} {L l a : Addr} {m : Str → Option Value} {i : Nat × Nat} {vs : List Value} {O : KeyOrd} {key : Nat → O.α} {κ : SortKind}
theorem wpAny_falseE {α : Type} {M : Model} {A : Around} {m : Sem α} {Q : α → Shared → Prop} {E : Value → Shared → Prop} {s : Shared} (h : wpAny M A m Q (fun _ _ => False) s) : wpAny M A m Q E s := wpAny_mono h (fun _ _ x => x) fun _ _ x => x.elim
/-- what the sort asks of the items -/
structure SortAsk (prog : Program) (w : World) (A : Around) (h₀ : Heap) (κ : SortKind) (vs : List Value) (O : KeyOrd) (key : Nat → O.α) : Prop where
  kind : ∀ (s : Shared), (∀ b o, h₀.get? b = some o → s.heap.get? b = some o) → 2 ≤ vs.length → ∀ Q : SortKind → Shared → Prop, (∀ tk, Q κ { s with toks := tk }) → wpAny (model prog w) A (keyKind' vs.toArray) Q (fun _ _ => False) s
  lt : ∀ (s : Shared), (∀ b o, h₀.get? b = some o → s.heap.get? b = some o) → ∀ i j (C : Bool → Shared → Prop), i < vs.length → j < vs.length → (∀ tk, C (ltOf O key i j) { s with toks := tk }) → kas_ask prog w A κ vs i j C s
theorem t_list_sort {n : Nat} {P : PySem.Fin → Shared → Prop} (ho : s.heap.get? a = some (seqObj "list" vs.toArray n)) (h64 : vs.length < 64) {h₀ : Heap} (hk : ∀ b o, h₀.get? b = some o → b ≠ a ∧ s.heap.get? b = some o) (K : SortAsk prog w A h₀ κ vs O key)
    (h : ∀ (p : Array Nat) tk, PermOf vs.length p → SortedP key p vs.length → P (.done (.ret .none)) { s with heap := sortedHeap s.heap a vs (List.toArray (p.toList.map fun i => vs.getD i Value.none)), toks := tk }) :
    wpAny (model prog w) A (Builtin.«list.sort» ⟨[.ref a], []⟩) P E s := by
  have ha : a < s.heap.objs.size := Heap.lt_size ho
  obtain ⟨e1, ho1⟩ : ∃ e1, (s.heap.update a (Obj.mapSeq fun _ => (#[] : Array Value))).get? a = some (seqObj "list" #[] e1) := ⟨_, get?_update_seq ho fun _ => #[]⟩
  rw [list_sort_plain]
  refine wpAny_bind (listItems_at ho rfl ?_)
  refine wpAny_bind (listUpdate_at ho rfl ?_ (by rw [List.size_toArray, sizeLine_eq]; omega) (Nat.zero_le _))
  refine wpAny_bind (seqEpoch_at ho1 rfl ?_)
  refine wpAny_bind (wpAny_newTuple ?_ (by show vs.length ≤ _; rw [sizeLine_eq]; omega))
  refine wpAny_bind (wpAny_newList ?_ (Nat.zero_le _))
  refine wpAny_holding ?_
  have ho6 : (((s.heap.update a (Obj.mapSeq fun _ => #[])).push (seqObj "tuple" vs.toArray 0)).push (seqObj "list" #[] 0)).get? a = some (seqObj "list" #[] e1) := by
    rw [Heap.get?_push_ne _ _ _ (by rw [size_push', Heap.size_update]; exact Nat.ne_of_lt (Nat.lt_succ_of_lt ha)), Heap.get?_push_ne _ _ _ (by rw [Heap.size_update]; exact Nat.ne_of_lt ha)]
    exact ho1
  show wpAny (model prog w) A _ P E { s with heap := ((s.heap.update a (Obj.mapSeq fun _ => (#[] : Array Value))).push (seqObj "tuple" vs.toArray 0)).push (seqObj "list" #[] 0) }
  dsimp only
  by_cases h2 : vs.toArray.size < 2
  · rw [if_pos h2, if_pos h2]
    refine wpAny_bind (wpAny_pure ?_)
    rw [StateT.run_pure]
    refine wpAny_bind (wpAny_pure ?_)
    dsimp only
    have e : (arrOf (SortSt.mk' general' (vs.toArray.zip vs.toArray) #[] 7 none)).map (·.2) = List.toArray ((List.toArray (List.range vs.length)).toList.map fun i => vs.getD i Value.none) := by
      apply Array.toList_inj.mp
      show ((vs.toArray.zip vs.toArray).map (·.2)).toList = _
      rw [List.size_toArray] at h2
      match vs, h2 with
      | [], _ => simp
      | [x], _ => simp
    refine wpAny_bind (seqEpoch_at ho6 rfl ?_)
    refine wpAny_bind (listUpdate_at ho6 rfl ?_ (hsz2 := by rw [Array.size_map]; show (pairsOf vs).size ≤ _; rw [pairsOf_size, sizeLine_eq]; omega))
    simp only [bne_self_eq_false, Bool.false_eq_true, if_false]
    rw [e]
    refine wpAny_pure (h (List.toArray (List.range vs.length)) s.toks ⟨by simp⟩ fun i j hij hj => ?_)
    rw [List.size_toArray] at h2
    have : i = j := by omega
    rw [this]; exact KeyOrd.kle_refl _
  · rw [if_neg h2, if_neg h2]
    have h2' : 2 ≤ vs.length := by rw [List.size_toArray] at h2; omega
    have keep : ∀ b o, h₀.get? b = some o → (((s.heap.update a (Obj.mapSeq fun _ => (#[] : Array Value))).push (seqObj "tuple" vs.toArray 0)).push (seqObj "list" #[] 0)).get? b = some o := fun b o e =>
      Heap.get?_push_of_some _ (Heap.get?_push_of_some _ (by rw [Heap.get?_update_ne _ _ _ _ (hk b o e).1]; exact (hk b o e).2))
    refine wpAny_bind (wpAny_falseE (K.kind _ keep h2' _ fun tk => ?_))
    refine wpAny_bind (wpAny_mono (kat_run (G := fun p s' => PermOf vs.length p ∧ SortedP key p vs.length ∧ ∃ tk, s' = { s with heap := ((s.heap.update a (Obj.mapSeq fun _ => (#[] : Array Value))).push (seqObj "tuple" vs.toArray 0)).push (seqObj "list" #[] 0), toks := tk })
      (Q := fun st' s' => ∃ p : Array Nat, arrOf st' = p.map (kas_item (vs.toArray.zip vs.toArray)) ∧ failedOf st' = none ∧ PermOf vs.length p ∧ SortedP key p vs.length ∧ ∃ tk, s' = { s with heap := ((s.heap.update a (Obj.mapSeq fun _ => (#[] : Array Value))).push (seqObj "tuple" vs.toArray 0)).push (seqObj "list" #[] 0), toks := tk })
      rfl h2' h64 (fun p' st' s' a1 a2 a3 a4 => ⟨p', a2, a3, a4⟩)
      (KOk.wp (I := fun s' => ∃ tk, s' = { s with heap := ((s.heap.update a (Obj.mapSeq fun _ => (#[] : Array Value))).push (seqObj "tuple" vs.toArray 0)).push (seqObj "list" #[] 0), toks := tk })
        (fun i j C s' hi hj ⟨tk, e⟩ hC => K.lt s' (by subst e; exact keep) i j C hi hj fun tk' => hC _ (by subst e; exact ⟨tk', rfl⟩)) (fun p s' hp hI => ⟨hp.1, hp.2, hI⟩) (ok_sort (by omega)) ⟨_, rfl⟩)) ?_ fun _ _ e => e)
    rintro ⟨⟨⟩, st'⟩ s' ⟨p, har, hf, hp, hs, tk', rfl⟩
    dsimp only
    rw [kat_snds rfl har]
    have hsz : (List.toArray (p.toList.map fun i => vs.getD i Value.none)).size = vs.length := by rw [List.size_toArray, List.length_map, Array.length_toList, hp.size]
    refine wpAny_bind (seqEpoch_at ho6 rfl ?_)
    refine wpAny_bind (listUpdate_at ho6 rfl ?_ (Nat.zero_le _) (Nat.le_trans (Nat.le_of_eq hsz) (by rw [sizeLine_eq]; omega)))
    rw [hf]
    simp only [bne_self_eq_false, Bool.false_eq_true, if_false]
    exact wpAny_pure (h p _ hp hs)
/-- sorted of a list -/
theorem t_sorted {Q : Value → Shared → Prop} (F : St s₀ R Z B V L m s) (hl : s.heap.IsList l vs.toArray) (h64 : vs.length < 64) (K : SortAsk prog w A.in1.in1 s.heap κ vs O key)
    (h : ∀ b (p : Array Nat) k s', B b = none → PermOf vs.length p → SortedP key p vs.length → St s₀ R Z B (V.put i (b, listO (p.toList.map fun i => vs.getD i Value.none) k)) L m s' → Q (.ref b) s') :
    wpAny (model prog w) A (call (.builtin "sorted") [.ref l]) Q E s := by
  refine Calls.call_function_entry kind_sorted plain_sorted entry_sorted (args_sorted1 _) ?_
  unfold Builtin.«sorted»
  refine wpAny_bind (m := checkCount "sorted" 1 1 _) (wpAny_pure ?_)
  refine wpAny_bind (collect_list hl ?_ (by rw [sizeLine_eq]; omega))
  refine wpAny_bind (wpAny_newList ?_ (by rw [sizeLine_eq]; omega))
  have hsz : ((s.heap.push (seqObj "list" #[] 0)).update s.heap.objs.size (Obj.mapSeq (· ++ vs.toArray))).objs.size = s.heap.objs.size + 1 := by
    rw [Heap.size_update, size_push']
  have hoL : (((s.heap.push (seqObj "list" #[] 0)).update s.heap.objs.size (Obj.mapSeq (· ++ vs.toArray))).push (seqObj "list" vs.toArray 0)).get? (s.heap.objs.size + 1) = some (seqObj "list" vs.toArray 0) := by
    rw [← hsz]; exact Heap.get?_push_size _ rfl
  have keep : ∀ b o, s.heap.get? b = some o → (((s.heap.push (seqObj "list" #[] 0)).update s.heap.objs.size (Obj.mapSeq (· ++ vs.toArray))).push (seqObj "list" vs.toArray 0)).get? b = some o := fun b o q => by
    have hlt : b < s.heap.objs.size := Heap.lt_size q
    rw [Heap.get?_push_ne _ _ _ (by rw [hsz]; exact Nat.ne_of_lt (Nat.lt_succ_of_lt hlt)), Heap.get?_update_ne _ _ _ _ (Nat.ne_of_lt hlt), Heap.get?_push_ne _ _ _ (Nat.ne_of_lt hlt)]
    exact q
  show wpAny _ _ _ _ _ { s with heap := ((s.heap.push (seqObj "list" #[] 0)).update s.heap.objs.size (Obj.mapSeq (· ++ vs.toArray))).push (seqObj "list" vs.toArray 0) }
  rw [hsz]
  refine wpAny_bind (wpAny_holding (wpAny_call_entry slot_list_sort ⟨_, hoL, rfl⟩ entry_list_sort (t_list_sort (h₀ := s.heap) hoL h64 (fun b o e => ⟨Nat.ne_of_lt (Nat.lt_succ_of_lt (Heap.lt_size e)), keep b o e⟩) K fun p tk hp hs => ⟨_, rfl, ?_⟩) (args_list_sort _)))
  have F₁ : St s₀ R Z B V L m { s with heap := sortedAll s.heap vs (List.toArray (p.toList.map fun i => vs.getD i Value.none)), toks := tk } := F.keep fun b o e => sortedAll_old e
  obtain ⟨e, he⟩ := sortedAll_at s.heap vs (List.toArray (p.toList.map fun i => vs.getD i Value.none))
  have n1 : s.heap.get? (s.heap.objs.size + 1) = none := get_size_none _ (Nat.le_succ _)
  obtain ⟨fR, fB, fV⟩ := F.fresh n1
  exact wpAny_pure ⟨_, rfl, h _ p e _ fB hp hs (F₁.addV he fR fB fV (fun q => F.ne_fresh n1 q.symm))⟩
end

end
section
def natOrd : KeyOrd := { α := Nat, blt := fun (a b : Nat) => decide (a < b), irrefl := fun a => by simp, trans := fun a b c h1 h2 => by simp at *; omega, negTrans := fun a b c h => by simp at *; omega, total := fun a b h1 h2 => by simp at *; omega }
def prKey (p : Pr) : Nat := 5 * p.1 + p.2
def askKey (q : Ask) : Nat := 9 * q.1 + 3 * q.2.1 + q.2.2
theorem clsName_lt {x y : Nat} (hx : x < 3) (hy : y < 3) : decide ((clsName x).cps.toList < (clsName y).cps.toList) = decide (x < y) := by
  match x, y, hx, hy with
  | 0, 0, _, _ => decide +kernel
  | 0, 1, _, _ => decide +kernel
  | 0, 2, _, _ => decide +kernel
  | 1, 0, _, _ => decide +kernel
  | 1, 1, _, _ => decide +kernel
  | 1, 2, _, _ => decide +kernel
  | 2, 0, _, _ => decide +kernel
  | 2, 1, _, _ => decide +kernel
  | 2, 2, _, _ => decide +kernel
theorem clsName_eq {x y : Nat} (hx : x < 3) (hy : y < 3) : decide (clsName x = clsName y) = decide (x = y) := by
  by_cases h : x = y
  · subst h; simp
  · have : clsName x ≠ clsName y := fun e => h (clsName_inj hx hy e)
    simp [h, this]
def PrTup (h : Heap) (p : Addr × Pr) : Prop := ∃ t t', h.get? p.1 = some (tupO [.int (p.2.1 : Int) t, .int (p.2.2 : Int) t'])
def AskTup (h : Heap) (p : Addr × Ask) : Prop := ∃ t1 t2 t3, h.get? p.1 = some (tupO [.int (p.2.1 : Int) t1, .str (clsName p.2.2.1) t2, .str (clsName p.2.2.2) t3])
theorem firsts_pr {h : Heap} : ∀ (T : List (Addr × Pr)), (∀ p ∈ T, PrTup h p) → ∃ fs, KatTups h (T.map aval) fs ∧ fs.length = T.length ∧ ∀ v ∈ fs, ∃ i t, v = .int i t
  | [], _ => ⟨[], trivial, rfl, by simp⟩
  | p :: T, hT => by
    obtain ⟨fs, h1, h2, h3⟩ := firsts_pr T fun q hq => hT q (List.mem_cons_of_mem _ hq)
    obtain ⟨t, t', e⟩ := hT p List.mem_cons_self
    exact ⟨.int (p.2.1 : Int) t :: fs, KatTups.cons e rfl rfl rfl h1, by simp [h2], fun v hv => by
      rcases List.mem_cons.mp hv with rfl | hv
      · exact ⟨_, _, rfl⟩
      · exact h3 v hv⟩
theorem firsts_ask {h : Heap} : ∀ (T : List (Addr × Ask)), (∀ p ∈ T, AskTup h p) → ∃ fs, KatTups h (T.map aval) fs ∧ fs.length = T.length ∧ ∀ v ∈ fs, ∃ i t, v = .int i t
  | [], _ => ⟨[], trivial, rfl, by simp⟩
  | p :: T, hT => by
    obtain ⟨fs, h1, h2, h3⟩ := firsts_ask T fun q hq => hT q (List.mem_cons_of_mem _ hq)
    obtain ⟨t, t2, t3, e⟩ := hT p List.mem_cons_self
    exact ⟨.int (p.2.1 : Int) t :: fs, KatTups.cons e rfl rfl rfl h1, by simp [h2], fun v hv => by
      rcases List.mem_cons.mp hv with rfl | hv
      · exact ⟨_, _, rfl⟩
      · exact h3 v hv⟩
abbrev tupKind : SortKind := tuples' (Value.type "int" != Value.type "tuple")
section
variable {prog : Program} {w : World} {A : Around} {h₀ : Heap}
theorem kind_of {vs fs : List Value} {s : Shared} {Q : SortKind → Shared → Prop} (t : KatTups s.heap vs fs) (hl : 0 < fs.length) (hi : ∀ v ∈ fs, ∃ i t, v = .int i t) (h : Q tupKind s) : wpAny (model prog w) A (keyKind' vs.toArray) Q (fun _ _ => False) s :=
  kat_kind (T := .type "int") t hl (fun v hv => by obtain ⟨i, t, rfl⟩ := hi v hv; exact .now) (by decide) h
theorem getD_aval {β : Type} {T : List (Addr × β)} {i : Nat} (hi : i < T.length) : (T.map aval).getD i Value.none = .ref (T[i]).1 := by
  simp [hi, aval]
theorem ask_pr {T : List (Addr × Pr)} (hT : ∀ p ∈ T, PrTup h₀ p) (h5 : ∀ p ∈ T, p.2.1 < 5 ∧ p.2.2 < 5) : SortAsk prog w A h₀ tupKind (T.map aval) natOrd (fun i => prKey ((T.map (·.2)).getD i (0, 0))) := by
  refine ⟨fun s hk h2 Q hQ => ?_, fun s hk i j C hi hj hC => ?_⟩
  · obtain ⟨fs, h1, h3, h4⟩ := firsts_pr (h := s.heap) T fun p hp => let ⟨t, t', e⟩ := hT p hp; ⟨t, t', hk _ _ e⟩
    rw [List.length_map] at h2
    exact kind_of h1 (by omega) h4 (hQ s.toks)
  · rw [List.length_map] at hi hj
    unfold kas_ask
    rw [getD_aval hi, getD_aval hj]
    obtain ⟨t1, t2, e1⟩ := hT T[i] (List.getElem_mem hi)
    obtain ⟨t3, t4, e2⟩ := hT T[j] (List.getElem_mem hj)
    have b1 := h5 T[i] (List.getElem_mem hi)
    have b2 := h5 T[j] (List.getElem_mem hj)
    have hC := hC s.toks
    have ek : ltOf natOrd (fun i => prKey ((T.map (·.2)).getD i (0, 0))) i j = decide (5 * (T[i]).2.1 + (T[i]).2.2 < 5 * (T[j]).2.1 + (T[j]).2.2) := by
      simp [ltOf, natOrd, prKey, hi, hj]
    rw [ek] at hC
    refine kat_lt (hk _ _ e1) rfl (hk _ _ e2) rfl ?_
    show KatLex prog w A _ _ C [(.int ((T[i]).2.1 : Int) t1, .int ((T[j]).2.1 : Int) t3), (.int ((T[i]).2.2 : Int) t2, .int ((T[j]).2.2 : Int) t4)] 0 s
    refine kat_cons (wpAny_eqBool_int (kat_go (fun h => kat_yes ?_) (fun h => kat_no ?_)))
    · have h : (T[i]).2.1 = (T[j]).2.1 := by simp only [beq_iff_eq] at h; omega
      refine kat_cons (wpAny_eqBool_int (kat_go (fun h' => kat_yes (kat_nil ?_)) (fun h' => kat_no (kat_one _ _ (PyProof.Rows.lt_int ?_)))))
      · have h' : (T[i]).2.2 = (T[j]).2.2 := by simp only [beq_iff_eq] at h'; omega
        have e : decide (5 * (T[i]).2.1 + (T[i]).2.2 < 5 * (T[j]).2.1 + (T[j]).2.2) = false := by rw [h, h']; simp
        rw [e] at hC
        simpa using hC
      · have e : decide (5 * (T[i]).2.1 + (T[i]).2.2 < 5 * (T[j]).2.1 + (T[j]).2.2) = decide (((T[i]).2.2 : Int) < ((T[j]).2.2 : Int)) := by
          rw [h]; rw [Bool.eq_iff_iff]; simp only [decide_eq_true_eq]; omega
        rw [e] at hC
        exact hC
    · have h : (T[i]).2.1 ≠ (T[j]).2.1 := by simp only [beq_eq_false_iff_ne, ne_eq] at h; omega
      refine oneLt_int ?_
      have e : decide (5 * (T[i]).2.1 + (T[i]).2.2 < 5 * (T[j]).2.1 + (T[j]).2.2) = decide (((T[i]).2.1 : Int) < ((T[j]).2.1 : Int)) := by
        rw [Bool.eq_iff_iff]; simp only [decide_eq_true_eq]; omega
      rw [e] at hC
      exact hC
theorem ask_ask {T : List (Addr × Ask)} (hT : ∀ p ∈ T, AskTup h₀ p) (h5 : ∀ p ∈ T, p.2.2.1 < 3 ∧ p.2.2.2 < 3) : SortAsk prog w A h₀ tupKind (T.map aval) natOrd (fun i => askKey ((T.map (·.2)).getD i (0, 0, 0))) := by
  refine ⟨fun s hk h2 Q hQ => ?_, fun s hk i j C hi hj hC => ?_⟩
  · obtain ⟨fs, h1, h3, h4⟩ := firsts_ask (h := s.heap) T fun p hp => let ⟨t, t2, t3, e⟩ := hT p hp; ⟨t, t2, t3, hk _ _ e⟩
    rw [List.length_map] at h2
    exact kind_of h1 (by omega) h4 (hQ s.toks)
  · rw [List.length_map] at hi hj
    unfold kas_ask
    rw [getD_aval hi, getD_aval hj]
    obtain ⟨t1, t2, t3, e1⟩ := hT T[i] (List.getElem_mem hi)
    obtain ⟨t4, t5, t6, e2⟩ := hT T[j] (List.getElem_mem hj)
    have b1 := h5 T[i] (List.getElem_mem hi)
    have b2 := h5 T[j] (List.getElem_mem hj)
    have hC := hC s.toks
    have ek : ltOf natOrd (fun i => askKey ((T.map (·.2)).getD i (0, 0, 0))) i j = decide (9 * (T[i]).2.1 + 3 * (T[i]).2.2.1 + (T[i]).2.2.2 < 9 * (T[j]).2.1 + 3 * (T[j]).2.2.1 + (T[j]).2.2.2) := by
      simp [ltOf, natOrd, askKey, hi, hj]
    rw [ek] at hC
    refine kat_lt (hk _ _ e1) rfl (hk _ _ e2) rfl ?_
    show KatLex prog w A _ _ C [(.int ((T[i]).2.1 : Int) t1, .int ((T[j]).2.1 : Int) t4), (.str (clsName (T[i]).2.2.1) t2, .str (clsName (T[j]).2.2.1) t5), (.str (clsName (T[i]).2.2.2) t3, .str (clsName (T[j]).2.2.2) t6)] 0 s
    generalize (T[i]).2 = p at *
    generalize (T[j]).2 = q at *
    obtain ⟨p1, p2, p3⟩ := p
    obtain ⟨q1, q2, q3⟩ := q
    dsimp only at *
    refine kat_cons (wpAny_eqBool_int (kat_go (fun h => kat_yes ?_) (fun h => kat_no ?_)))
    · have h : p1 = q1 := by simp only [beq_iff_eq] at h; omega
      refine kat_cons (wpAny_eqBool_str ?_)
      rw [clsName_eq b1.1 b2.1]
      refine kat_go (fun h' => kat_yes ?_) (fun h' => kat_no (kat_one _ _ (P.lt_str ?_)))
      · have h' : p2 = q2 := by simpa using h'
        refine kat_cons (wpAny_eqBool_str ?_)
        rw [clsName_eq b1.2 b2.2]
        refine kat_go (fun h'' => kat_yes (kat_nil ?_)) (fun h'' => kat_no (kat_one _ _ (P.lt_str ?_)))
        · have h'' : p3 = q3 := by simpa using h''
          have e : decide (9 * p1 + 3 * p2 + p3 < 9 * q1 + 3 * q2 + q3) = false := by rw [h, h', h'']; simp
          rw [e] at hC
          simpa using hC
        · have e : decide (9 * p1 + 3 * p2 + p3 < 9 * q1 + 3 * q2 + q3) = decide ((clsName p3).cps.toList < (clsName q3).cps.toList) := by
            rw [clsName_lt b1.2 b2.2, h, h']; rw [Bool.eq_iff_iff]; simp only [decide_eq_true_eq]; omega
          rw [e] at hC
          exact hC
      · have h' : p2 ≠ q2 := by simpa using h'
        have e : decide (9 * p1 + 3 * p2 + p3 < 9 * q1 + 3 * q2 + q3) = decide ((clsName p2).cps.toList < (clsName q2).cps.toList) := by
          rw [clsName_lt b1.1 b2.1, h]; rw [Bool.eq_iff_iff]; simp only [decide_eq_true_eq]; omega
        rw [e] at hC
        exact hC
    · have h : p1 ≠ q1 := by simp only [beq_eq_false_iff_ne, ne_eq] at h; omega
      refine oneLt_int ?_
      have e : decide (9 * p1 + 3 * p2 + p3 < 9 * q1 + 3 * q2 + q3) = decide ((p1 : Int) < (q1 : Int)) := by
        rw [Bool.eq_iff_iff]; simp only [decide_eq_true_eq]; omega
      rw [e] at hC
      exact hC
end

end
section
theorem inc_ext {α : Type} {key : α → Nat} : ∀ {l l' : List α}, l.Pairwise (fun a b => key a < key b) → l'.Pairwise (fun a b => key a < key b) → (∀ x, x ∈ l ↔ x ∈ l') → l = l'
  | [], [], _, _, _ => rfl
  | [], b :: l', _, _, h => absurd ((h b).mpr List.mem_cons_self) (by simp)
  | a :: l, [], _, _, h => absurd ((h a).mp List.mem_cons_self) (by simp)
  | a :: l, b :: l', h1, h2, h => by
    have p1 := List.pairwise_cons.mp h1
    have p2 := List.pairwise_cons.mp h2
    have e : a = b := by
      rcases List.mem_cons.mp ((h a).mp List.mem_cons_self) with e | ha
      · exact e
      · rcases List.mem_cons.mp ((h b).mpr List.mem_cons_self) with e | hb
        · exact e.symm
        · have := p1.1 b hb
          have := p2.1 a ha
          omega
    subst e
    congr 1
    refine inc_ext p1.2 p2.2 fun x => ⟨fun hx => ?_, fun hx => ?_⟩
    · rcases List.mem_cons.mp ((h x).mp (List.mem_cons_of_mem _ hx)) with e | h'
      · subst e; exact absurd (p1.1 _ hx) (by omega)
      · exact h'
    · rcases List.mem_cons.mp ((h x).mpr (List.mem_cons_of_mem _ hx)) with e | h'
      · subst e; exact absurd (p2.1 _ hx) (by omega)
      · exact h'
/-- what a sort puts out: of different keys, told by its members -/
theorem sort_out {α : Type} {key : α → Nat} {l due : List α} {d : α} {p : Array Nat} (hp : PermOf l.length p) (hs : SortedP (O := natOrd) (fun i => key (l.getD i d)) p l.length) (hn : l.Nodup) (hinj : ∀ a ∈ l, ∀ b ∈ l, key a = key b → a = b)
    (hd : due.Pairwise (fun a b => key a < key b)) (hm : ∀ x, x ∈ l ↔ x ∈ due) : p.toList.map (fun i => l.getD i d) = due := by
  have hsz := hp.size
  have hperm : (p.toList.map fun i => l.getD i d).Perm l := by
    have h1 := hp.perm.map fun i => l.getD i d
    have h2 : (List.range l.length).map (fun i => l.getD i d) = l := by
      apply List.ext_getElem?
      intro i
      by_cases h : i < l.length
      · rw [List.getElem?_map, List.getElem?_range h]; simp [h]
      · rw [List.getElem?_eq_none (by simp; omega), List.getElem?_eq_none (by omega)]
    rw [h2] at h1
    exact h1
  have hnd : (p.toList.map fun i => l.getD i d).Nodup := hperm.nodup_iff.mpr hn
  refine inc_ext ?_ hd fun x => (hperm.mem_iff).trans (hm x)
  rw [List.pairwise_iff_getElem]
  intro i j hi hj hij
  have hi' : i < p.size := by simpa using hi
  have hj' : j < p.size := by simpa using hj
  have hle := hs i j (by omega) (by omega)
  have ei : KP (O := natOrd) (fun i => key (l.getD i d)) p i = key ((p.toList.map fun i => l.getD i d)[i]) := by
    unfold KP; simp [Array.getD, hi']; rfl
  have ej : KP (O := natOrd) (fun i => key (l.getD i d)) p j = key ((p.toList.map fun i => l.getD i d)[j]) := by
    unfold KP; simp [Array.getD, hj']; rfl
  rw [ei, ej] at hle
  have hle' : ¬ (key ((p.toList.map fun i => l.getD i d)[j]) < key ((p.toList.map fun i => l.getD i d)[i])) := by
    have : decide (key ((p.toList.map fun i => l.getD i d)[j]) < key ((p.toList.map fun i => l.getD i d)[i])) = false := hle
    simpa using this
  have hne : key ((p.toList.map fun i => l.getD i d)[i]) ≠ key ((p.toList.map fun i => l.getD i d)[j]) := fun e => by
    have h1 := hinj _ (hperm.mem_iff.mp (List.getElem_mem hi)) _ (hperm.mem_iff.mp (List.getElem_mem hj)) e
    exact (List.pairwise_iff_getElem.mp hnd i j hi hj hij) h1
  omega

end
section
def cellO (v : Option Value) : Obj := { cls := .type "cell", data := .cell v }
section
variable {prog : Program} {w : World} {A : Around} {E : Value → Shared → Prop} {s₀ s s' : Shared} {R R' Z B B' : View} {V V' : Dyn} {L a b l C it c D : Addr} {m m' mg mb : Str → Option Value} {env cenv : Env} {x : Str} {k n cnt : Nat} {o o' : Obj} {h' : Heap} {tk : Nat} {P : Nat → Value → Prop} {SI : Nat → Heap → Prop} {fp : List Addr}
  {elt iter target : Expr} {ifs : List Expr} {scope : Scope} {cl : List (Str × Addr)} {pos : Pos} {i q : Nat × Nat} {keep : View → Dyn → Prop}
theorem newEnv1 {M : Model} {g : Addr} {qual : Str} {Q : Env → Shared → Prop} (hc : ∀ n acc, cellsFrom n scope.names acc = (x, n) :: acc) (hp : ∀ h, pushCells h scope.names = h.push (cellO none))
    (h : Q (newEnv scope s.heap.objs.size g ((x, s.heap.objs.size + 1) :: cl) qual none .none (some env) builtinsNs) { s with heap := (s.heap.push { cls := .type "dict", data := .dict #[] }).push (cellO none) }) :
    wpAny M A (newFunctionEnv scope g cl [] qual none .none (some env)) Q E s := by
  simp only [newFunctionEnv, Option.isSome_some, if_true]
  refine wpAny_bind (wpAny_alloc ?_)
  refine wpAny_bind (wpAny_layCells _ (fun name kind cells => by cases hkc : kind == NameKind.cell <;> simp [hkc]) _ _ _ _ ?_)
  rw [hc, hp, List.forIn_nil]
  rw [show ({ s with heap := s.heap.push { cls := .type "dict", data := .dict #[] } } : Shared).heap.objs.size = s.heap.objs.size + 1 from Heap.size_push ..]
  exact wpAny_bind (wpAny_pure (wpAny_pure h))

theorem put_swap (V : Dyn) {i q} (h : q ≠ i) (p r t) : ((V.put q p).put i r).put q t = (V.put q t).put i r := by
  funext j
  unfold Dyn.put
  by_cases h1 : j = q
  · subst h1; simp [h]
  · simp [h1]

theorem emit_appC {vs : List Value} {Pk : Fin → Shared → Prop} {Ek : Value → Shared → Prop} {kk : Sem Fin} {Y : Value → Shared → Prop}
    (h : wpAny (model prog w) A (eval elt env) Y (fun _ _ => False) s)
    (h2 : ∀ y s₄, Y y s₄ → ∃ (V : Dyn) (B'' : View) (m'' : Str → Option Value) (n : Nat), St s₀ R' Z B'' (V.put i (D, listO vs n)) l m'' s₄ ∧ vs.length ≤ sizeLine ∧ ∀ s₅, St s₀ R' Z B'' (V.put i (D, listO (vs ++ [y]) (n + 1))) l m'' s₅ → wpAny (model prog w) A kk Pk Ek s₅) :
    wpAny (model prog w) A (emitL elt (.ref D) env kk) Pk Ek s := by
  refine wpAny_bind (wpAny_bind (wpAny_mono h (fun y s₄ h₄ => ?_) fun _ _ e => e.elim))
  obtain ⟨V, B'', m'', n, F, hsz, hk⟩ := h2 y s₄ h₄
  refine wpAny_bind (l_append F (put_self _ _ _) hsz fun s₅ F₅ => wpAny_pure (hk _ ?_))
  rw [put_put] at F₅; exact F₅

def LoopOKC (prog : Program) (w : World) (A : Around) (s₀ : Shared) (B : View) (V : Dyn) (i q : Nat × Nat) (x : Str) (e : Expr) (scope : Scope) (cl : List (Str × Addr)) (env : Env) (cnt : Nat) (P : Nat → Value → Prop) (keep : View → Dyn → Prop) (o₀ : Obj) (FIN : Addr → View → Dyn → Prop) : Prop :=
  ∀ it o SI fp D C R' s', R' it = none → B D = none → Walks prog w A it fp [it] cnt P SI → (∀ i h, SI i h → ∃ o, ItObj h it o) → (∀ b ∈ fp, b ≠ it → ∃ p, ∀ B' V', keep B' V' → At B' V' b p) →
      St s₀ (R'.put it o) B B ((V.put i (D, o₀)).put q (C + 1, cellO none)) C (fun _ => none) s' → SI 0 s'.heap →
      codeAny (model prog w) A (.compLoop e 0 (.ref it) (.ref D) (compEnvC scope ((x, C + 1) :: cl) C env)) (fun r s'' => r = .ok .next ∧ ∃ B' V' m', St s₀ R' B B' V' C m' s'' ∧ FIN D B' V') s'

/-- a comprehension with one cell of its own -/
theorem comp_enterC {e : Expr} {newAcc : Sem Value} {Q : Value → Shared → Prop} {o₀ : Obj} {xv : Value}
    (FIN : Addr → View → Dyn → Prop)
    (F : St s₀ R Z B V L m s) (src : Src prog w A B V xv keep cnt P)
    (hacc : ∀ (Q : Value → Shared → Prop) E s, (∀ D h', D = s.heap.objs.size → h' = s.heap.push o₀ → Q (.ref D) { s with heap := h' }) → wpAny (model prog w) A newAcc Q E s) (ho₀ : o₀.isFreed = false)
    (hstart : ∀ {it acc env s} {R : Result → Shared → Prop}, codeAny (model prog w) A (.compLoop e 0 it acc env) R s → (wpAny (model prog w) A (pyIter it) (fun it' s' => codeAny (model prog w) A (.compLoop e 0 it' acc env) R s') (notedBy (model prog w) A env fun x s' => R (.error x) s') s) → codeAny (model prog w) A (.compStart e 0 it acc env) R s)
    (loop : LoopOKC prog w A s₀ B V i q x e scope cl env cnt P keep o₀ FIN)
    (fin : ∀ D B' V' s'', FIN D B' V' → B.le B' → St s₀ R Z B' V' L m s'' → Q (.ref D) s'')
    (hc : ∀ n acc, cellsFrom n scope.names acc = (x, n) :: acc) (hp : ∀ h, pushCells h scope.names = h.push (cellO none)) :
    CompGo prog w A E e scope cl env newAcc none Q xv s := by
  refine src _ _ _ _ _ _ _ _ F fun it o SI fp s₁ O => hacc _ _ _ fun D h₂ hD hh₂ => ?_
  subst hD; subst hh₂
  refine newEnv1 hc hp ?_
  have nD := get_fresh s₁.heap
  have k₂ : ∀ b p, s₁.heap.get? b = some p → (s₁.heap.push o₀).get? b = some p := fun b p e => Heap.get?_push_of_some _ e
  have F₂ : St s₀ (R.put it o) Z B (V.put i (s₁.heap.objs.size, o₀)) L m { s₁ with heap := s₁.heap.push o₀, toks := s₁.toks } := O.F.newV nD k₂ (Heap.get?_push_size _ ho₀)
  generalize hH : s₁.heap.push o₀ = H₂ at k₂ F₂ ⊢
  have nC : H₂.get? H₂.objs.size = none := get_fresh H₂
  have k₃ : ∀ b p, H₂.get? b = some p → (H₂.push { cls := .type "dict", data := .dict #[] }).get? b = some p := fun b p e => Heap.get?_push_of_some _ e
  obtain ⟨R', hR', hsub, hCL, F₃, back⟩ := F₂.enterBut (tk := s₁.toks) O.hR nC (m' := fun _ => none) (Heap.Ns.new H₂ (.type "dict")) k₃
  have hsz : (H₂.push { cls := .type "dict", data := .dict #[] }).objs.size = H₂.objs.size + 1 := Heap.size_push ..
  have n1 := get_fresh (H₂.push { cls := .type "dict", data := .dict #[] })
  have k₄ : ∀ b p, (H₂.push { cls := .type "dict", data := .dict #[] }).get? b = some p → ((H₂.push { cls := .type "dict", data := .dict #[] }).push (cellO none)).get? b = some p := fun b p e => Heap.get?_push_of_some _ e
  have F₄ := F₃.newV (i := q) (tk := s₁.toks) n1 k₄ (Heap.get?_push_size _ rfl)
  rw [hsz] at F₄
  have st₃ := O.W.frame _ _ _ O.st fun b _ p e => k₄ b p (k₃ b p (k₂ b p e))
  have L1 := loop it o SI fp _ _ R' _ hR' (O.F.fresh nD).2.1 O.W O.exI O.kp F₄ st₃
  have L2 : codeAny (model prog w) A (.compLoop e 0 (.ref it) (.ref s₁.heap.objs.size) (compEnvC scope ((x, H₂.objs.size + 1) :: cl) H₂.objs.size env)) (compPost (model prog w) A E none Q (.ref s₁.heap.objs.size) H₂.objs.size)
      { s₁ with heap := (H₂.push { cls := .type "dict", data := .dict #[] }).push (cellO none), toks := s₁.toks } := codeAny_mono L1 fun r s'' hr => by
    obtain ⟨rfl, B', V', m'', F₄, hf⟩ := hr
    obtain ⟨F₅, oC, hRC, F₆⟩ := back _ _ _ _ F₄
    exact ⟨m'', F₄.ns, fun h' hs => fin _ B' V' { s'' with heap := h' } hf F₄.z (F₆.change hRC hs)⟩
  exact hstart L2 (O.W.self 0 _ _ _ st₃ L2)

abbrev ListFinC (V : Dyn) (i q : Nat × Nat) (Out : View → Nat → List Value → Prop) (cnt : Nat) (D : Addr) (B' : View) (V' : Dyn) : Prop := ∃ zs n cp, V' = (V.put q cp).put i (D, listO zs n) ∧ Cat (Out B') cnt zs

/-- one clause; the target a cell of the comprehension's own -/
theorem loop1C {Out : View → Nat → List Value → Prop} (Mk : (Str → Option Value) → Prop) (hcnt : cnt ≤ sizeLine) (hiq : q ≠ i) (Cc : Cx w mg mb B)
    (hk : ∀ B' D ys n cp, B.le B' → keep B' ((V.put q cp).put i (D, listO ys n))) (mono : ∀ B' B'' j zs, B'.le B'' → Out B' j zs → Out B'' j zs) (hM : Mk fun _ => none)
    (turn : ∀ C D j v ys n R' B' m' s' oc vc, j < cnt → P j v → B.le B' → B D = none → Mk m' → Cx w mg mb B → oc.data = .cell vc → St s₀ R' B B' ((V.put q (C + 1, oc)).put i (D, listO ys n)) C m' s' →
      wpAny (model prog w) A (assign target (compEnvC scope ((x, C + 1) :: cl) C env) v) (fun _ s₂ => wpAny (model prog w) A (compTests' ifs (compEnvC scope ((x, C + 1) :: cl) C env)) (fun ok s₃ => if ok = true then
          wpAny (model prog w) A (eval elt (compEnvC scope ((x, C + 1) :: cl) C env)) (fun y s₄ => Leaf (∃ B'' m'' oc' vc', B'.le B'' ∧ Out B'' j [y] ∧ Mk m'' ∧ oc'.data = .cell vc' ∧ St s₀ R' B B'' (((V.put q (C + 1, oc)).put i (D, listO ys n)).put q (C + 1, oc')) C m'' s₄)) (fun _ _ => False) s₃
        else Leaf (∃ B'' m'' oc' vc', B'.le B'' ∧ Out B'' j [] ∧ Mk m'' ∧ oc'.data = .cell vc' ∧ St s₀ R' B B'' (((V.put q (C + 1, oc)).put i (D, listO ys n)).put q (C + 1, oc')) C m'' s₃)) (fun _ _ => False) s₂) (fun _ _ => False) s') :
    LoopOKC prog w A s₀ B V i q x (.ListComp elt [⟨target, iter, ifs, 0⟩] scope pos) scope cl env cnt P keep (listO [] 0) (ListFinC V i q Out cnt) := by
  intro it o SI fp D C R' s' hR hD W exI kp F st
  have e0 : (V.put i (D, listO [] 0)).put q (C + 1, cellO none) = (V.put q (C + 1, cellO none)).put i (D, listO [] 0) := by
    funext j; unfold Dyn.put
    by_cases h1 : j = q
    · subst h1; simp [hiq]
    · simp [h1]
  rw [e0] at F
  refine comp_loop (inv := fun j B' V' m' => ∃ zs n oc vc, V' = (V.put q (C + 1, oc)).put i (D, listO zs n) ∧ oc.data = .cell vc ∧ zs.length ≤ j ∧ Mk m' ∧ Cat (Out B') j zs) (turn_L1 ..) rfl rfl rfl hR W exI kp F st ⟨[], 0, _, _, rfl, rfl, Nat.le_refl _, hM, .zero⟩
    (fun j B' V' m' ⟨zs, n, oc, vc, e, _⟩ hl => e ▸ hk B' D zs n _ hl) (fun j v R₁ B' V' m' s₁ hj hP hl hI F₁ => ?_) fun B' V' m' s₁ hl hI F₁ => ⟨rfl, B', V', m', F₁, let ⟨zs, n, oc, vc, e, _, _, _, c⟩ := hI; ⟨zs, n, _, e, c⟩⟩
  obtain ⟨zs, n, oc, vc, rfl, hoc, hlen, hm, hcat⟩ := hI
  refine wpAny_mono (turn C D j v zs n R₁ B' m' s₁ oc vc hj hP hl hD hm Cc hoc F₁) (fun _ s₂ h₂ => wpAny_mono h₂ (fun ok s₃ h₃ => ?_) fun _ _ e => e) fun _ _ e => e
  cases ok with
  | true =>
    simp only [if_true] at h₃ ⊢
    intro kk Pk Ek hk'
    refine emit_appC h₃ fun y s₄ ⟨B'', m'', oc', vc', hl', hO, hm', ho', F₄⟩ => ⟨V.put q (C + 1, oc'), B'', m'', n, (by rw [put_swap _ hiq] at F₄; exact F₄), by omega, fun s₅ F₅ => hk' s₅ ⟨B'', _, m'', hl', ⟨zs ++ [y], n + 1, oc', vc', rfl, ho', by simp; omega, hm', .succ (hcat.mono fun j zs h => mono _ _ _ _ hl' h) hO⟩, F₅⟩⟩
  | false =>
    simp only [Bool.false_eq_true, if_false] at h₃ ⊢
    obtain ⟨B'', m'', oc', vc', hl', hO, hm', ho', F₄⟩ := h₃
    rw [put_swap _ hiq] at F₄
    exact ⟨B'', _, m'', hl', ⟨zs, n, oc', vc', rfl, ho', by omega, hm', by simpa using Cat.succ (hcat.mono fun j zs h => mono _ _ _ _ hl' h) hO⟩, F₄⟩
theorem lc_noneC {g : List Comprehension} {Out : View → Nat → List Value → Prop} {xv : Value} {Q : Value → Shared → Prop} (F : St s₀ R Z B V L m s) (src : Src prog w A B V xv keep cnt P)
    (hloop : LoopOKC prog w A s₀ B V i q x (.ListComp elt (⟨target, iter, ifs, 0⟩ :: g) scope pos) scope cl env cnt P keep (listO [] 0) (ListFinC V i q Out cnt))
    (fin : ∀ D B' zs n cp s'', B.le B' → Cat (Out B') cnt zs → St s₀ R Z B' ((V.put q cp).put i (D, listO zs n)) L m s'' → Q (.ref D) s'')
    (hc : ∀ n acc, cellsFrom n scope.names acc = (x, n) :: acc := by intro _ _; rfl) (hp : ∀ h, pushCells h scope.names = h.push (cellO none) := by intro _; rfl) :
    CompGo prog w A E (.ListComp elt (⟨target, iter, ifs, 0⟩ :: g) scope pos) scope cl env (newList []) none Q xv s :=
  comp_enterC (ListFinC V i q Out cnt) F src newList_acc rfl (fun h0 h => codeAny_compStart_list h0 h) hloop (fun D B' V' s'' ⟨zs, n, cp, e, hcat⟩ hl F'' => by subst e; exact fin D B' zs n cp s'' hl hcat F'') hc hp
end

end
section
open PySem.SetTable
def adv (mask : Nat) (p : Probe) : Probe :=
  if p.more > 0 then { p with j := p.j + 1, more := p.more - 1 } else
  { p with j := (leap mask p.i p.perturb).1, more := runEnd mask (leap mask p.i p.perturb).1 - (leap mask p.i p.perturb).1, i := (leap mask p.i p.perturb).1, perturb := (leap mask p.i p.perturb).2 }
theorem adv_eq (t : SetTable) (p : Probe) : t.advance p = adv t.mask p := rfl
def atLeap (mask : Nat) (q : Nat × Nat) : Probe := { j := q.1, more := runEnd mask q.1 - q.1, i := q.1, perturb := q.2, dummy := none }
def lp (mask : Nat) (h : Int) : Nat → Nat × Nat
  | 0 => (bits h % (mask + 1), bits h)
  | k + 1 => leap mask (lp mask h k).1 (lp mask h k).2
theorem start_eq (t : SetTable) (h : Int) : t.probeStart h = atLeap t.mask (lp t.mask h 0) := rfl
def pos (mask : Nat) (h : Int) : Nat → Probe
  | 0 => atLeap mask (lp mask h 0)
  | n + 1 => adv mask (pos mask h n)
def J (mask : Nat) (h : Int) (n : Nat) : Nat := (pos mask h n).j
def nk (mask : Nat) (h : Int) : Nat → Nat
  | 0 => 0
  | k + 1 => nk mask h k + (runEnd mask (lp mask h k).1 - (lp mask h k).1) + 1
section
variable {mask : Nat} {h : Int}
theorem run_steps {n : Nat} {q : Nat × Nat} (hp : pos mask h n = atLeap mask q) : ∀ r, r ≤ runEnd mask q.1 - q.1 → pos mask h (n + r) = { j := q.1 + r, more := runEnd mask q.1 - q.1 - r, i := q.1, perturb := q.2, dummy := none }
  | 0, _ => hp
  | r + 1, hr => by
    have ih := run_steps hp r (by omega)
    show adv mask (pos mask h (n + r)) = _
    rw [ih]
    unfold adv
    rw [if_pos (by show runEnd mask q.1 - q.1 - r > 0; omega)]
    congr 1
theorem next_leap {n : Nat} {q : Nat × Nat} (hp : pos mask h n = atLeap mask q) : pos mask h (n + (runEnd mask q.1 - q.1) + 1) = atLeap mask (leap mask q.1 q.2) := by
  show adv mask (pos mask h (n + (runEnd mask q.1 - q.1))) = _
  rw [run_steps hp _ (Nat.le_refl _)]
  unfold adv
  rw [if_neg (by show ¬ (runEnd mask q.1 - q.1 - (runEnd mask q.1 - q.1) > 0); omega)]
  rfl
theorem pos_nk : ∀ k, pos mask h (nk mask h k) = atLeap mask (lp mask h k)
  | 0 => rfl
  | k + 1 => next_leap (pos_nk k)
theorem run_le (i : Nat) : runEnd mask i - i ≤ 9 := by unfold runEnd; split <;> omega
theorem nk_le : ∀ k, nk mask h k ≤ 10 * k
  | 0 => Nat.le_refl _
  | k + 1 => by have := nk_le k; have := run_le (mask := mask) (lp mask h k).1; show nk mask h k + _ + 1 ≤ _; omega
theorem J_run (k r : Nat) (hr : r ≤ runEnd mask (lp mask h k).1 - (lp mask h k).1) : J mask h (nk mask h k + r) = (lp mask h k).1 + r := by
  unfold J; rw [run_steps (pos_nk k) r hr]
theorem J_nk (k : Nat) : J mask h (nk mask h k) = (lp mask h k).1 := J_run k 0 (Nat.zero_le _)
theorem lp_le : ∀ k, (lp mask h k).1 ≤ mask
  | 0 => Nat.le_of_lt_succ (Nat.mod_lt _ (Nat.succ_pos _))
  | k + 1 => Nat.le_of_lt_succ (Nat.mod_lt _ (Nat.succ_pos _))
theorem lp_perturb : ∀ k, (lp mask h k).2 = bits h / 32 ^ k
  | 0 => by show bits h = _; rw [Nat.pow_zero, Nat.div_one]
  | k + 1 => by show (lp mask h k).2 / 32 = _; rw [lp_perturb k, Nat.div_div_eq_div_mul, Nat.pow_succ]
theorem bits_lt : bits h < 2 ^ 64 := by unfold bits; omega
theorem lp_zero {k : Nat} (hk : 13 ≤ k) : (lp mask h k).2 = 0 := by
  rw [lp_perturb]
  have h1 : (32 : Nat) ^ 13 ≤ 32 ^ k := Nat.pow_le_pow_right (by decide) hk
  have h2 := bits_lt (h := h)
  have h3 : (2 : Nat) ^ 64 ≤ 32 ^ 13 := by decide
  exact Nat.div_eq_of_lt (by omega)
def lcg (mask : Nat) : Nat → Nat → Nat
  | 0, i => i
  | m + 1, i => (lcg mask m i * 5 + 1) % (mask + 1)
theorem lp_lcg : ∀ m, (lp mask h (13 + m)).1 = lcg mask m (lp mask h 13).1
  | 0 => rfl
  | m + 1 => by
    show ((lp mask h (13 + m)).1 * 5 + 1 + (lp mask h (13 + m)).2 / 32) % (mask + 1) = (lcg mask m (lp mask h 13).1 * 5 + 1) % (mask + 1)
    rw [lp_zero (by omega), lp_lcg m, Nat.zero_div, Nat.add_zero]
theorem lcg_all (N : Nat) (hb : ((List.range N).all fun i => (List.range N).all fun a => (List.range N).any fun m => lcg (N - 1) m i == a) = true) {i a : Nat} (hi : i < N) (ha : a < N) : ∃ m, m < N ∧ lcg (N - 1) m i = a := by
  rw [List.all_eq_true] at hb
  have h1 := hb i (List.mem_range.mpr hi)
  rw [List.all_eq_true] at h1
  have h2 := h1 a (List.mem_range.mpr ha)
  rw [List.any_eq_true] at h2
  obtain ⟨m, hm, e⟩ := h2
  exact ⟨m, List.mem_range.mp hm, by simpa using e⟩
theorem cover (hm : mask = 7 ∨ mask = 31) {a : Nat} (ha : a ≤ mask) : ∃ k, k ≤ 13 + mask ∧ (lp mask h k).1 = a := by
  have key : ∃ m, m < mask + 1 ∧ lcg (mask + 1 - 1) m (lp mask h 13).1 = a := by
    refine lcg_all (mask + 1) ?_ (Nat.lt_succ_of_le (lp_le 13)) (Nat.lt_succ_of_le ha)
    rcases hm with rfl | rfl
    · decide +kernel
    · decide +kernel
  obtain ⟨m, h1, h2⟩ := key
  exact ⟨13 + m, by omega, (lp_lcg m).trans h2⟩
theorem J_le (n : Nat) : J mask h n ≤ mask := by
  have key : ∀ n, ∃ k r, n = nk mask h k + r ∧ r ≤ runEnd mask (lp mask h k).1 - (lp mask h k).1 := by
    intro n
    induction n with
    | zero => exact ⟨0, 0, rfl, Nat.zero_le _⟩
    | succ n ih =>
      obtain ⟨k, r, e, hr⟩ := ih
      by_cases h1 : r < runEnd mask (lp mask h k).1 - (lp mask h k).1
      · exact ⟨k, r + 1, by omega, h1⟩
      · exact ⟨k + 1, 0, by show n + 1 = nk mask h k + _ + 1; omega, Nat.zero_le _⟩
  obtain ⟨k, r, rfl, hr⟩ := key n
  rw [J_run k r hr]
  have := lp_le (mask := mask) (h := h) k
  unfold runEnd at hr
  split at hr <;> omega
end
theorem nodup_len : ∀ {l l' : List Nat}, l.Nodup → (∀ x ∈ l, x ∈ l') → l.length ≤ l'.length
  | [], _, _, _ => Nat.zero_le _
  | a :: l, l', hn, hs => by
    rw [List.nodup_cons] at hn
    have ha := hs a List.mem_cons_self
    have ih := nodup_len (l' := l'.erase a) hn.2 fun x hx => (List.mem_erase_of_ne (fun e => hn.1 (by rw [← e]; exact hx))).mpr (hs x (List.mem_cons_of_mem _ hx))
    rw [List.length_erase_of_mem ha] at ih
    have := List.length_pos_of_mem ha
    rw [List.length_cons]; omega
theorem least {P : Nat → Prop} : ∀ {n : Nat}, P n → ∃ m, m ≤ n ∧ P m ∧ ∀ k, k < m → ¬ P k := by
  intro n
  induction n using Nat.strongRecOn with
  | ind n ih =>
    intro h
    by_cases hx : ∃ k, k < n ∧ P k
    · obtain ⟨k, hk, hp⟩ := hx
      obtain ⟨m, h1, h2, h3⟩ := ih k hk hp
      exact ⟨m, by omega, h2, h3⟩
    · exact ⟨n, Nat.le_refl _, h, fun k hk hp => hx ⟨k, hk, hp⟩⟩

/-! the sorted places -/
def Rising (xs : Array Nat) : Prop := ∀ a b, a < b → b < xs.size → xs.getD a 0 < xs.getD b 0
theorem below_spec {xs : Array Nat} {j : Nat} (hs : Rising xs) : below xs j ≤ xs.size ∧ (∀ i, i < below xs j → xs.getD i 0 < j) ∧ ∀ i, below xs j ≤ i → i < xs.size → j ≤ xs.getD i 0 := by
  have key : ∀ fuel lo hi, hi - lo ≤ fuel → lo ≤ hi → hi ≤ xs.size → (∀ i, i < lo → xs.getD i 0 < j) → (∀ i, hi ≤ i → i < xs.size → j ≤ xs.getD i 0) →
      below.go xs j fuel lo hi ≤ xs.size ∧ (∀ i, i < below.go xs j fuel lo hi → xs.getD i 0 < j) ∧ ∀ i, below.go xs j fuel lo hi ≤ i → i < xs.size → j ≤ xs.getD i 0 := by
    intro fuel
    induction fuel with
    | zero =>
      intro lo hi h1 h2 h3 h4 h5
      have : lo = hi := by omega
      subst this
      exact ⟨h3, h4, h5⟩
    | succ fuel ih =>
      intro lo hi h1 h2 h3 h4 h5
      unfold below.go
      by_cases hlt : lo < hi
      · rw [if_pos hlt]
        dsimp only
        have hm1 : lo ≤ (lo + hi) / 2 := by omega
        have hm2 : (lo + hi) / 2 < hi := by omega
        have hg : xs.getD ((lo + hi) / 2) j = xs.getD ((lo + hi) / 2) 0 := by
          have : (lo + hi) / 2 < xs.size := by omega
          simp [Array.getD, this]
        rw [hg]
        generalize (lo + hi) / 2 = mid at hm1 hm2
        by_cases hc : xs.getD mid 0 < j
        · rw [if_pos hc]
          refine ih _ _ (by omega) (by omega) h3 (fun i hi' => ?_) h5
          rcases Nat.lt_or_ge i mid with h | h
          · exact Nat.lt_trans (hs i mid h (by omega)) hc
          · have : i = mid := by omega
            subst this; exact hc
        · rw [if_neg hc]
          refine ih _ _ (by omega) (by omega) (by omega) h4 (fun i hi' hlt' => ?_)
          rcases Nat.lt_or_ge mid i with h | h
          · exact Nat.le_of_lt (Nat.lt_of_le_of_lt (Nat.le_of_not_lt hc) (hs mid i h hlt'))
          · have : i = mid := by omega
            subst this; exact Nat.le_of_not_lt hc
      · rw [if_neg hlt]
        have : lo = hi := by omega
        subst this
        exact ⟨h3, h4, h5⟩
  exact key xs.size 0 xs.size (by omega) (Nat.zero_le _) (Nat.le_refl _) (fun i h => by omega) (fun i h1 h2 => by omega)
theorem insertAt_list {α : Type} (xs : Array α) (p : Nat) (x : α) : (insertAt xs p x).toList = xs.toList.take p ++ x :: xs.toList.drop p := by
  unfold insertAt
  simp [Array.toList_extract, List.extract_eq_take_drop]
  rw [List.take_of_length_le (by simp)]

/-! the table with its elements -/
abbrev Row := Nat × Int × Value
structure SetOK (t : SetTable) (es : Array (Int × Value)) (T : List Row) : Prop where
  pl : t.place.toList = T.map (·.1)
  el : es.toList = T.map (·.2)
  up : T.Pairwise fun a b => a.1 < b.1
  dm : t.dummies = #[]
  mk7 : t.mask = 7 ∨ t.mask = 31
  le : ∀ a ∈ T, a.1 ≤ t.mask
  path : ∀ a ∈ T, ∃ n, J t.mask a.2.1 n = a.1 ∧ ∀ m, m < n → ∃ b ∈ T, b.1 = J t.mask a.2.1 m
  room : T.length ≤ t.mask
section
variable {t : SetTable} {es : Array (Int × Value)} {T : List Row} {h : Int} {x : Value} {j : Nat}
theorem SetOK.psize (I : SetOK t es T) : t.place.size = T.length := by rw [← Array.length_toList, I.pl, List.length_map]
theorem SetOK.esize (I : SetOK t es T) : es.size = T.length := by rw [← Array.length_toList, I.el, List.length_map]
theorem SetOK.pget (I : SetOK t es T) (i : Nat) : t.place[i]? = (T[i]?).map (·.1) := by rw [← Array.getElem?_toList, I.pl, List.getElem?_map]
theorem SetOK.eget (I : SetOK t es T) (i : Nat) : es[i]? = (T[i]?).map (·.2) := by rw [← Array.getElem?_toList, I.el, List.getElem?_map]
theorem SetOK.pgetD (I : SetOK t es T) {i : Nat} {b : Row} (hb : T[i]? = some b) : t.place.getD i 0 = b.1 := by
  have h1 := I.pget i
  rw [hb] at h1
  rw [Array.getD_eq_getD_getElem?, h1]; rfl
theorem SetOK.rise (I : SetOK t es T) : Rising t.place := by
  intro a b hab hb
  rw [I.psize] at hb
  have ha : a < T.length := by omega
  rw [I.pgetD (List.getElem?_eq_getElem ha), I.pgetD (List.getElem?_eq_getElem hb)]
  exact List.pairwise_iff_getElem.mp I.up a b ha hb hab
theorem SetOK.live (I : SetOK t es T) {i : Nat} {b : Row} (hb : T[i]? = some b) : t.slot b.1 = .live i := by
  obtain ⟨h1, h2, h3⟩ := below_spec (j := b.1) I.rise
  have hi : i < T.length := (List.getElem?_eq_some_iff.mp hb).1
  have e : below t.place b.1 = i := by
    rcases Nat.lt_trichotomy (below t.place b.1) i with h | h | h
    · have h4 := h3 _ (Nat.le_refl _) (by rw [I.psize]; omega)
      have h5 := I.rise _ _ h (by rw [I.psize]; exact hi)
      rw [I.pgetD hb] at h5
      omega
    · exact h
    · have := h2 i h
      rw [I.pgetD hb] at this
      omega
  unfold SetTable.slot
  dsimp only
  rw [e, I.pget i, hb]
  simp
theorem SetOK.free_ (I : SetOK t es T) (hj : ∀ b ∈ T, b.1 ≠ j) : t.slot j = .empty := by
  unfold SetTable.slot
  dsimp only
  rw [if_neg, if_neg]
  · rw [I.dm]; simp [has]
  · rw [I.pget]
    cases hb : T[below t.place j]? with
    | none => simp
    | some b => simpa using hj b (List.mem_of_getElem? hb)
def Occ (T : List Row) (j : Nat) : Prop := ∃ b ∈ T, b.1 = j
theorem SetOK.first (I : SetOK t es T) (h : Int) : ∃ n, n ≤ 10 * (13 + t.mask) ∧ ¬ Occ T (J t.mask h n) ∧ ∀ m, m < n → Occ T (J t.mask h m) := by
  have h1 : ∃ a, a ≤ t.mask ∧ ¬ Occ T a := by
    refine Classical.byContradiction fun hn => ?_
    have h2 := nodup_len (l := List.range (t.mask + 1)) (l' := T.map (·.1)) List.nodup_range fun x hx => by
      have hx := List.mem_range.mp hx
      refine Classical.byContradiction fun h3 => hn ⟨x, by omega, fun ⟨b, hb, e⟩ => h3 (e ▸ List.mem_map_of_mem hb)⟩
    rw [List.length_range, List.length_map] at h2
    have := I.room
    omega
  obtain ⟨a, ha, hf⟩ := h1
  obtain ⟨k, hk, e⟩ := cover (h := h) I.mk7 ha
  have h2 : ¬ Occ T (J t.mask h (nk t.mask h k)) := by rw [J_nk, e]; exact hf
  obtain ⟨n, h3, h4, h5⟩ := least (P := fun n => ¬ Occ T (J t.mask h n)) h2
  have := nk_le (mask := t.mask) (h := h) k
  exact ⟨n, by omega, h4, fun m hm => Classical.byContradiction (h5 m hm)⟩
theorem pos_dummy (mask : Nat) (h : Int) : ∀ n, (pos mask h n).dummy = none
  | 0 => rfl
  | n + 1 => by
    show (adv mask (pos mask h n)).dummy = none
    unfold adv
    split <;> exact pos_dummy mask h n
theorem SetOK.uniq (I : SetOK t es T) {a b : Row} (ha : a ∈ T) (hb : b ∈ T) (e : a.1 = b.1) : a = b := by
  obtain ⟨i, hi, rfl⟩ := List.mem_iff_getElem.mp ha
  obtain ⟨k, hk, rfl⟩ := List.mem_iff_getElem.mp hb
  rcases Nat.lt_trichotomy i k with h | h | h
  · have := List.pairwise_iff_getElem.mp I.up i k hi hk h; omega
  · subst h; rfl
  · have := List.pairwise_iff_getElem.mp I.up k i hk hi h; omega
/-- a search from a place of the path -/
theorem SetOK.go (I : SetOK t es T) {hashAt : Nat → Int} (hh : ∀ i b, T[i]? = some b → hashAt i = b.2.1) {N : Nat} (hN : ¬ Occ T (J t.mask h N)) (hO : ∀ m, m < N → Occ T (J t.mask h m)) : ∀ f n, n ≤ N → N - n < f →
    (SetTable.probe.go t hashAt h f (pos t.mask h n) = some (.empty (J t.mask h N) none) ∧ ∀ m, n ≤ m → m < N → ∀ b ∈ T, b.1 = J t.mask h m → b.2.1 ≠ h) ∨
    ∃ m i b, n ≤ m ∧ m < N ∧ T[i]? = some b ∧ b.1 = J t.mask h m ∧ b.2.1 = h ∧ SetTable.probe.go t hashAt h f (pos t.mask h n) = some (.candidate (J t.mask h m) i (pos t.mask h (m + 1))) ∧ ∀ m', n ≤ m' → m' < m → ∀ b ∈ T, b.1 = J t.mask h m' → b.2.1 ≠ h
  | 0, n, _, hf => by omega
  | f + 1, n, hn, hf => by
    have uniq : ∀ {a b : Row}, a ∈ T → b ∈ T → a.1 = b.1 → a = b := I.uniq
    unfold SetTable.probe.go
    by_cases e : n = N
    · subst e
      left
      have hsl : t.slot (pos t.mask h n).j = .empty := I.free_ (fun b hb e => hN ⟨b, hb, e⟩)
      rw [hsl]
      exact ⟨by dsimp only; rw [pos_dummy]; rfl, fun m h1 h2 => by omega⟩
    · have hlt : n < N := by omega
      obtain ⟨b, hb, hbj⟩ := hO n hlt
      obtain ⟨i, hi, hbi⟩ := List.mem_iff_getElem.mp hb
      have hbi' : T[i]? = some b := by rw [List.getElem?_eq_getElem hi, hbi]
      have hsl : t.slot (pos t.mask h n).j = .live i := by show t.slot (J t.mask h n) = _; rw [← hbj]; exact I.live hbi'
      rw [hsl]
      dsimp only
      rw [hh i b hbi', adv_eq]
      have e0 : adv t.mask (pos t.mask h n) = pos t.mask h (n + 1) := rfl
      rw [e0]
      by_cases hc : b.2.1 = h
      · right
        refine ⟨n, i, b, Nat.le_refl _, hlt, hbi', hbj, hc, ?_, fun m' h1 h2 => by omega⟩
        rw [if_pos (by simpa using hc)]; rfl
      · have ih := SetOK.go I hh hN hO f (n + 1) hlt (by omega)
        rw [if_neg (by simpa using hc)]
        rcases ih with ⟨h1, h2⟩ | ⟨m, i', b', h1, h2, h3, h4, h5, h6, h7⟩
        · refine .inl ⟨h1, fun m hm1 hm2 b' hb' e' => ?_⟩
          rcases Nat.lt_or_ge n m with q | q
          · exact h2 m q hm2 b' hb' e'
          · have : m = n := by omega
            subst this
            rw [uniq hb' hb (e'.trans hbj.symm)]; exact hc
        · refine .inr ⟨m, i', b', by omega, h2, h3, h4, h5, h6, fun m' hm1 hm2 b'' hb'' e'' => ?_⟩
          rcases Nat.lt_or_ge n m' with q | q
          · exact h7 m' q hm2 b'' hb'' e''
          · have : m' = n := by omega
            subst this
            rw [uniq hb'' hb (e''.trans hbj.symm)]; exact hc
/-- an element of the set lies before the first free place of its path -/
theorem SetOK.before (I : SetOK t es T) {N : Nat} (hN : ¬ Occ T (J t.mask h N)) {b : Row} (hb : b ∈ T) (e : b.2.1 = h) : ∃ n, n < N ∧ b.1 = J t.mask h n := by
  obtain ⟨n, h1, h2⟩ := I.path b hb
  rw [e] at h1 h2
  refine ⟨n, ?_, h1.symm⟩
  rcases Nat.lt_trichotomy n N with h | h | h
  · exact h
  · subst h; exact absurd ⟨b, hb, h1.symm⟩ hN
  · exact absurd (h2 N h) hN
/-- an element put at the first free place of its path -/
theorem SetOK.put_ (I : SetOK t es T) {N : Nat} (hN : ¬ Occ T (J t.mask h N)) (hO : ∀ m, m < N → Occ T (J t.mask h m)) (hr : T.length + 1 ≤ t.mask) :
    ∃ T', SetOK (t.put (J t.mask h N)).1 (insertAt es (t.put (J t.mask h N)).2 (h, x)) T' ∧ T'.Perm ((J t.mask h N, h, x) :: T) ∧ (t.put (J t.mask h N)).1.led = t.led ∧ (t.put (J t.mask h N)).1.plain = t.plain ∧ (t.put (J t.mask h N)).1.mask = t.mask := by
  have hd : (t.put (J t.mask h N)).1.dummies = #[] := by
    unfold SetTable.put
    rw [I.dm]; simp [has]
  obtain ⟨h1, h2, h3⟩ := below_spec (j := J t.mask h N) I.rise
  rw [I.psize] at h1 h3
  generalize hp : below t.place (J t.mask h N) = p at h1 h2 h3
  have e2 : (t.put (J t.mask h N)).2 = p := hp
  have e1 : (t.put (J t.mask h N)).1.place = insertAt t.place p (J t.mask h N) := by rw [← hp]; rfl
  have hperm : (T.take p ++ (J t.mask h N, h, x) :: T.drop p).Perm ((J t.mask h N, h, x) :: T) := by
    refine List.perm_middle.trans ?_
    rw [List.take_append_drop]
  have hmem : ∀ a, a ∈ T.take p ++ (J t.mask h N, h, x) :: T.drop p ↔ a = (J t.mask h N, h, x) ∨ a ∈ T := fun a => by rw [hperm.mem_iff, List.mem_cons]
  refine ⟨T.take p ++ (J t.mask h N, h, x) :: T.drop p, ⟨?_, ?_, ?_, hd, I.mk7, ?_, ?_, ?_⟩, hperm, rfl, rfl, rfl⟩
  · rw [e1, insertAt_list, I.pl]; simp
  · rw [e2, insertAt_list, I.el]; simp
  · rw [List.pairwise_append]
    refine ⟨I.up.sublist (List.take_sublist _ _), List.pairwise_cons.mpr ⟨fun b hb => ?_, I.up.sublist (List.drop_sublist _ _)⟩, fun a ha b hb => ?_⟩
    · obtain ⟨i, hi, rfl⟩ := List.mem_iff_getElem.mp hb
      rw [List.getElem_drop]
      rw [List.length_drop] at hi
      have h4 := h3 (p + i) (by omega) (by omega)
      rw [I.pgetD (List.getElem?_eq_getElem (by omega))] at h4
      have h5 : (T[p + i]).1 ≠ J t.mask h N := fun q => hN ⟨_, List.getElem_mem _, q⟩
      show J t.mask h N < _
      omega
    · obtain ⟨i, hi, rfl⟩ := List.mem_iff_getElem.mp ha
      rw [List.getElem_take]
      rw [List.length_take] at hi
      have h4 := h2 i (by omega)
      rw [I.pgetD (List.getElem?_eq_getElem (by omega))] at h4
      rcases List.mem_cons.mp hb with rfl | hb
      · exact h4
      · obtain ⟨k, hk, rfl⟩ := List.mem_iff_getElem.mp hb
        rw [List.getElem_drop]
        rw [List.length_drop] at hk
        exact List.pairwise_iff_getElem.mp I.up i (p + k) (by omega) (by omega) (by omega)
  · intro a ha
    rcases (hmem a).mp ha with rfl | ha
    · exact J_le N
    · exact I.le a ha
  · intro a ha
    show ∃ n, J t.mask a.2.1 n = a.1 ∧ ∀ m, m < n → ∃ b : Row, b ∈ T.take p ++ (J t.mask h N, h, x) :: T.drop p ∧ b.1 = J t.mask a.2.1 m
    rcases (hmem a).mp ha with rfl | ha
    · exact ⟨N, rfl, fun m hm => let ⟨b, hb, e⟩ := hO m hm; ⟨b, (hmem b).mpr (.inr hb), e⟩⟩
    · obtain ⟨n, h4, h5⟩ := I.path a ha
      exact ⟨n, h4, fun m hm => let ⟨b, hb, e⟩ := h5 m hm; ⟨b, (hmem b).mpr (.inr hb), e⟩⟩
  · rw [hperm.length_eq, List.length_cons]; exact hr
end

end
section
open PySem.SetTable
theorem find_range {n : Nat} {p : Nat → Bool} {k : Nat} (h : (List.range n).find? p = some k) : k < n ∧ p k = true ∧ ∀ m, m < k → p m = false := by
  rw [List.find?_range_eq_some] at h
  exact ⟨List.mem_range.mp h.2.1, h.1, fun m hm => by simpa using h.2.2 m hm⟩
section
variable {mask : Nat} {h : Int} {owner : Array (Option Nat)} {hs : List Int}
def Own (owner : Array (Option Nat)) (j i : Nat) : Prop := owner[j]? = some (some i)
theorem getD_isNone {j : Nat} (hj : j < owner.size) : (owner.getD j (some 0)).isNone = true ↔ ∀ i, ¬ Own owner j i := by
  unfold Own
  rw [Array.getD_eq_getD_getElem?, Array.getElem?_eq_getElem hj]
  cases hx : owner[j] with
  | none => simp
  | some i => simp
theorem getD_isNone_f {j : Nat} (hj : j < owner.size) (h : (owner.getD j (some 0)).isNone = false) : ∃ i, Own owner j i :=
  Classical.byContradiction fun hn => by
    have := (getD_isNone hj).mpr fun i hi => hn ⟨i, hi⟩
    rw [h] at this; cases this
/-- the free place that the clean laying finds -/
theorem free_spec (hsz : owner.size = mask + 1) : ∀ fuel k K, k ≤ K → K - k < fuel → (∀ i, ¬ Own owner (lp mask h K).1 i) → (∀ m, m < nk mask h k → ∃ i, Own owner (J mask h m) i) →
    ∃ n, layClean.free mask owner fuel (lp mask h k).1 (lp mask h k).2 = some (J mask h n) ∧ (∀ i, ¬ Own owner (J mask h n) i) ∧ ∀ m, m < n → ∃ i, Own owner (J mask h m) i
  | 0, k, K, _, hf, _, _ => by omega
  | fuel + 1, k, K, hk, hf, hK, hb => by
    have hr := lp_le (mask := mask) (h := h) k
    have hre : runEnd mask (lp mask h k).1 ≤ mask := by unfold runEnd; split <;> omega
    have hrl : (lp mask h k).1 ≤ runEnd mask (lp mask h k).1 := by unfold runEnd; split <;> omega
    unfold layClean.free
    cases hfd : (List.range (runEnd mask (lp mask h k).1 + 1 - (lp mask h k).1)).find? fun r => (owner.getD ((lp mask h k).1 + r) (some 0)).isNone with
    | some r =>
      obtain ⟨h1, h2, h3⟩ := find_range hfd
      refine ⟨nk mask h k + r, ?_, ?_, fun m hm => ?_⟩
      · dsimp only; rw [J_run k r (by omega)]
      · rw [J_run k r (by omega)]
        exact (getD_isNone (by omega)).mp h2
      · rcases Nat.lt_or_ge m (nk mask h k) with q | q
        · exact hb m q
        · have e : m = nk mask h k + (m - nk mask h k) := by omega
          rw [e, J_run k _ (by omega)]
          exact getD_isNone_f (by omega) (h3 _ (by omega))
    | none =>
      rw [List.find?_range_eq_none] at hfd
      have hall : ∀ r, r ≤ runEnd mask (lp mask h k).1 - (lp mask h k).1 → ∃ i, Own owner ((lp mask h k).1 + r) i := fun r hr' => getD_isNone_f (by omega) (by simpa using hfd r (by omega))
      have hne : k ≠ K := fun e => by
        subst e
        obtain ⟨i, hi⟩ := hall 0 (Nat.zero_le _)
        exact hK i hi
      obtain ⟨n, h1, h2, h3⟩ := free_spec hsz fuel (k + 1) K (by omega) (by omega) hK fun m hm => by
        rcases Nat.lt_or_ge m (nk mask h k) with q | q
        · exact hb m q
        · have hm : m < nk mask h k + (runEnd mask (lp mask h k).1 - (lp mask h k).1) + 1 := hm
          have e : m = nk mask h k + (m - nk mask h k) := by omega
          rw [e, J_run k _ (by omega)]
          exact hall _ (by omega)
      exact ⟨n, h1, h2, h3⟩
/-- the places given to the hashes so far -/
structure LayOK (mask : Nat) (hs : List Int) (owner : Array (Option Nat)) : Prop where
  sz : owner.size = mask + 1
  path : ∀ j i, Own owner j i → ∃ h, hs[i]? = some h ∧ ∃ n, J mask h n = j ∧ ∀ m, m < n → ∃ i', Own owner (J mask h m) i'
  all : ∀ i, i < hs.length → ∃ j, Own owner j i
  inj : ∀ j j' i, Own owner j i → Own owner j' i → j = j'
theorem LayOK.lt (I : LayOK mask hs owner) {j i : Nat} (h : Own owner j i) : j ≤ mask ∧ i < hs.length := by
  obtain ⟨x, hx, _⟩ := I.path j i h
  refine ⟨?_, (List.getElem?_eq_some_iff.mp hx).1⟩
  have h' : owner[j]? = some (some i) := h
  have := (Array.getElem?_eq_some_iff.mp h').1
  have := I.sz
  omega
theorem LayOK.start : LayOK mask [] (Array.replicate (mask + 1) none) := by
  have no : ∀ j i, ¬ Own (Array.replicate (mask + 1) none) j i := fun j i h => by
    unfold Own at h
    rw [Array.getElem?_replicate] at h
    split at h <;> simp at h
  exact ⟨by simp, fun j i h => absurd h (no j i), fun i h => by simp at h, fun j j' i h => absurd h (no j i)⟩
theorem LayOK.free_ (I : LayOK mask hs owner) (hl : hs.length ≤ mask) : ∃ a, a ≤ mask ∧ ∀ i, ¬ Own owner a i := by
  refine Classical.byContradiction fun hn => ?_
  have hsome : ∀ a, a ≤ mask → ∃ i, Own owner a i := fun a ha => Classical.byContradiction fun h => hn ⟨a, ha, fun i hi => h ⟨i, hi⟩⟩
  have h2 := nodup_len (l := (List.range (mask + 1)).map fun a => ((owner[a]?).join).getD 0) (l' := List.range hs.length) ?_ fun x hx => ?_
  · rw [List.length_map, List.length_range, List.length_range] at h2; omega
  · rw [List.nodup_iff_pairwise_ne, List.pairwise_map]
    refine List.Pairwise.imp_of_mem (R := fun a b => a ≠ b) (fun {a b} ha hb hne e => ?_) (List.nodup_iff_pairwise_ne.mp List.nodup_range)
    obtain ⟨i, hi⟩ := hsome a (by have := List.mem_range.mp ha; omega)
    obtain ⟨i', hi'⟩ := hsome b (by have := List.mem_range.mp hb; omega)
    have h1 : owner[a]? = some (some i) := hi
    have h3 : owner[b]? = some (some i') := hi'
    rw [h1, h3] at e
    have e : i = i' := e
    subst e
    exact hne (I.inj _ _ _ hi hi')
  · obtain ⟨a, ha, rfl⟩ := List.mem_map.mp hx
    obtain ⟨i, hi⟩ := hsome a (by have := List.mem_range.mp ha; omega)
    have h1 : owner[a]? = some (some i) := hi
    rw [h1]
    exact List.mem_range.mpr (I.lt hi).2
theorem LayOK.step (I : LayOK mask hs owner) (hm : mask = 7 ∨ mask = 31) (hl : hs.length ≤ mask) (h : Int) :
    ∃ j, layClean.free mask owner (turns mask) (bits h % (mask + 1)) (bits h) = some j ∧ LayOK mask (hs ++ [h]) (owner.setIfInBounds j (some hs.length)) := by
  obtain ⟨a, ha, hf⟩ := I.free_ hl
  obtain ⟨K, hK, e⟩ := cover (h := h) hm ha
  obtain ⟨n, h1, h2, h3⟩ := free_spec (h := h) I.sz (turns mask) 0 K (Nat.zero_le _) (by unfold turns; omega) (by rw [e]; exact hf) (fun m hm => by simp [nk] at hm)
  have hJ := J_le (mask := mask) (h := h) n
  have hsz := I.sz
  have hset : ∀ j i, Own (owner.setIfInBounds (J mask h n) (some hs.length)) j i ↔ (j = J mask h n ∧ i = hs.length) ∨ (j ≠ J mask h n ∧ Own owner j i) := fun j i => by
    unfold Own
    rw [Array.getElem?_setIfInBounds]
    by_cases q : J mask h n = j
    · subst q
      rw [if_pos rfl, if_pos (by omega)]
      simp [eq_comm]
    · rw [if_neg q]
      simp [Ne.symm q]
  refine ⟨J mask h n, h1, by rw [Array.size_setIfInBounds]; exact hsz, fun j i hj => ?_, fun i hi => ?_, fun j j' i hj hj' => ?_⟩
  · rcases (hset j i).mp hj with ⟨rfl, rfl⟩ | ⟨q, hj⟩
    · refine ⟨h, by simp, n, rfl, fun m hm => ?_⟩
      obtain ⟨i', hi'⟩ := h3 m hm
      exact ⟨i', (hset _ _).mpr (.inr ⟨fun e => h2 i' (e ▸ hi'), hi'⟩)⟩
    · obtain ⟨x, hx, n', h4, h5⟩ := I.path j i hj
      refine ⟨x, by rw [List.getElem?_append_left (I.lt hj).2]; exact hx, n', h4, fun m hm => ?_⟩
      obtain ⟨i', hi'⟩ := h5 m hm
      exact ⟨i', (hset _ _).mpr (.inr ⟨fun e => h2 i' (e ▸ hi'), hi'⟩)⟩
  · rw [List.length_append, List.length_singleton] at hi
    rcases Nat.lt_or_ge i hs.length with q | q
    · obtain ⟨j, hj⟩ := I.all i q
      exact ⟨j, (hset _ _).mpr (.inr ⟨fun e => h2 i (e ▸ hj), hj⟩)⟩
    · exact ⟨J mask h n, (hset _ _).mpr (.inl ⟨rfl, by omega⟩)⟩
  · rcases (hset j i).mp hj with ⟨rfl, rfl⟩ | ⟨q, hj⟩ <;> rcases (hset j' _).mp hj' with ⟨rfl, e⟩ | ⟨q', hj'⟩
    · rfl
    · exact absurd (I.lt hj').2 (Nat.lt_irrefl _)
    · exact absurd (e ▸ (I.lt hj).2) (Nat.lt_irrefl _)
    · exact I.inj _ _ _ hj hj'
theorem layClean_ok (hm : mask = 7 ∨ mask = 31) (hs : List Int) (hl : hs.length ≤ mask + 1) : ∃ owner, layClean mask hs.toArray = some owner ∧ LayOK mask hs owner := by
  unfold layClean
  rw [List.foldl_toArray]
  have key : ∀ (r d : List Int) (owner : Array (Option Nat)), d.length + r.length ≤ mask + 1 → LayOK mask d owner → ∃ owner',
      (r.foldl (fun acc h => do
        let (owner, k) ← acc
        let j ← layClean.free mask owner (turns mask) (bits h % (mask + 1)) (bits h)
        pure (owner.setIfInBounds j (some k), k + 1)) (some (owner, d.length)) : Option (Array (Option Nat) × Nat)) = some (owner', (d ++ r).length) ∧ LayOK mask (d ++ r) owner' := by
    intro r
    induction r with
    | nil => intro d owner _ I; exact ⟨owner, by simp, by simpa using I⟩
    | cons h r ih =>
      intro d owner hl I
      rw [List.length_cons] at hl
      obtain ⟨j, hj, I'⟩ := I.step hm (by omega) h
      obtain ⟨o', h1, h2⟩ := ih (d ++ [h]) _ (by rw [List.length_append, List.length_singleton]; omega) I'
      refine ⟨o', ?_, by simpa using h2⟩
      rw [List.foldl_cons]
      have e : (do
        let (owner, k) ← (some (owner, d.length) : Option (Array (Option Nat) × Nat))
        let j ← layClean.free mask owner (turns mask) (bits h % (mask + 1)) (bits h)
        pure (owner.setIfInBounds j (some k), k + 1)) = some (owner.setIfInBounds j (some d.length), (d ++ [h]).length) := by
        show (layClean.free mask owner (turns mask) (bits h % (mask + 1)) (bits h)).bind _ = _
        rw [hj]; simp
      rw [e, h1]
      simp
  obtain ⟨o', h1, h2⟩ := key hs [] _ (by simpa using hl) LayOK.start
  exact ⟨o', by rw [show (0 : Nat) = ([] : List Int).length from rfl, h1]; rfl, by simpa using h2⟩
end

end
section
open PySem.SetTable
theorem fm_congr {α β : Type} {f g : α → Option β} : ∀ {l : List α}, (∀ x ∈ l, f x = g x) → l.filterMap f = l.filterMap g
  | [], _ => rfl
  | x :: l, h => by
    have e := h x List.mem_cons_self
    have ih := fm_congr (l := l) fun y hy => h y (List.mem_cons_of_mem _ hy)
    cases hx : f x with
    | none => rw [List.filterMap_cons_none hx, List.filterMap_cons_none (e ▸ hx), ih]
    | some y => rw [List.filterMap_cons_some hx, List.filterMap_cons_some (e ▸ hx), ih]
section
variable {mask : Nat} {h : Int} {owner : Array (Option Nat)} {hs : List Int} {t : SetTable} {es : Array (Int × Value)} {T : List Row}
theorem filterMap_range_nodup {N : Nat} (f : Nat → Option Nat) (hinj : ∀ a b i, a < N → b < N → f a = some i → f b = some i → a = b) : ((List.range N).filterMap f).Nodup := by
  rw [List.nodup_iff_pairwise_ne, List.pairwise_filterMap]
  refine List.Pairwise.imp_of_mem (R := fun a b => a ≠ b) (fun {a b} ha hb hne => ?_) (List.nodup_iff_pairwise_ne.mp List.nodup_range)
  intro i hi i' hi' e
  subst e
  exact hne (hinj a b _ (List.mem_range.mp ha) (List.mem_range.mp hb) hi hi')
theorem filterMap_range_get {α : Type} (l : List α) : (List.range l.length).filterMap (l[·]?) = l := by
  refine snoc_ind (P := fun l => (List.range l.length).filterMap (l[·]?) = l) rfl (fun l x ih => ?_) l
  rw [List.length_append, List.length_singleton, List.range_succ, List.filterMap_append]
  have e1 : (List.range l.length).filterMap ((l ++ [x])[·]?) = (List.range l.length).filterMap (l[·]?) := fm_congr fun i hi => List.getElem?_append_left (List.mem_range.mp hi)
  rw [e1, ih]
  simp
/-- the table laid anew -/
theorem SetOK.relaid_ (I : SetOK t es T) (hl : T.length ≤ 18) {wanted : Nat} (hw : sizeAbove wanted - 1 = 31) :
    ∃ t' order T', t.relaid (es.map (·.1)) wanted = some (t', order) ∧ SetOK t' (order.filterMap (es[·]?)) T' ∧ (order.filterMap (es[·]?)).size = es.size ∧ (T'.map (·.2)).Perm (T.map (·.2)) ∧ t'.mask = 31 ∧ t'.led = t.led ∧ t'.plain = t.plain := by
  have hes : (es.map (·.1)) = (es.toList.map (·.1)).toArray := by
    apply Array.ext'; simp
  obtain ⟨owner, ho, Lk⟩ := layClean_ok (mask := 31) (.inr rfl) (es.toList.map (·.1)) (by rw [List.length_map, I.el, List.length_map]; omega)
  have hlen : (es.toList.map (·.1)).length = es.size := by rw [List.length_map, Array.length_toList]
  let f : Nat → Option Nat := fun j => owner.getD j none
  have hf : ∀ j i, f j = some i ↔ Own owner j i := fun j i => by
    show owner.getD j none = some i ↔ owner[j]? = some (some i)
    rw [Array.getD_eq_getD_getElem?]
    cases hx : owner[j]? with
    | none => simp
    | some o => simp
  have hlive : (List.range 32).filterMap (fun j => (owner.getD j none).map (j, ·)) = (List.range 32).filterMap (fun j => (f j).map (j, ·)) := rfl
  generalize hlv : (List.range 32).filterMap (fun j => (f j).map (j, ·)) = live at hlive
  have hmemL : ∀ p : Nat × Nat, p ∈ live ↔ Own owner p.1 p.2 := fun p => by
    rw [← hlv, List.mem_filterMap]
    constructor
    · rintro ⟨j, _, hj⟩
      obtain ⟨i, hi, rfl⟩ := Option.map_eq_some_iff.mp hj
      exact (hf _ _).mp hi
    · intro h
      exact ⟨p.1, List.mem_range.mpr (by have := (Lk.lt h).1; omega), by rw [(hf _ _).mpr h]; rfl⟩
  have hord : live.map (·.2) = (List.range 32).filterMap f := by
    rw [← hlv, List.map_filterMap]
    exact fm_congr fun j _ => by cases f j <;> rfl
  have hnd : (live.map (·.2)).Nodup := by
    rw [hord]
    exact filterMap_range_nodup f fun a b i _ _ h1 h2 => Lk.inj _ _ _ ((hf _ _).mp h1) ((hf _ _).mp h2)
  have hperm : (live.map (·.2)).Perm (List.range es.toList.length) := by
    refine (List.perm_ext_iff_of_nodup hnd List.nodup_range).mpr fun i => ?_
    rw [List.mem_range, List.mem_map]
    constructor
    · rintro ⟨p, hp, rfl⟩
      have := (Lk.lt ((hmemL p).mp hp)).2
      rw [List.length_map] at this
      exact this
    · intro hi
      obtain ⟨j, hj⟩ := Lk.all i (by rw [List.length_map]; exact hi)
      exact ⟨(j, i), (hmemL (j, i)).mpr hj, rfl⟩
  have hsome : ∀ p ∈ live, ∃ e, es.toList[p.2]? = some e := fun p hp => by
    have := (Lk.lt ((hmemL p).mp hp)).2
    rw [List.length_map] at this
    exact ⟨_, List.getElem?_eq_getElem this⟩
  have hfm : ∀ (l : List (Nat × Nat)), (∀ p ∈ l, ∃ e, es.toList[p.2]? = some e) → (l.filterMap fun p => (es.toList[p.2]?).map (p.1, ·)).map (·.1) = l.map (·.1) ∧ (l.filterMap fun p => (es.toList[p.2]?).map (p.1, ·)).map (·.2) = (l.map (·.2)).filterMap (es.toList[·]?) := by
    intro l
    induction l with
    | nil => intro _; exact ⟨rfl, rfl⟩
    | cons p l ih =>
      intro hp
      obtain ⟨e, he⟩ := hp p List.mem_cons_self
      obtain ⟨h1, h2⟩ := ih fun q hq => hp q (List.mem_cons_of_mem _ hq)
      rw [List.filterMap_cons_some (by rw [he]; rfl), List.map_cons, List.map_cons, List.map_cons, List.map_cons, List.filterMap_cons_some he, h1, h2]
      exact ⟨rfl, rfl⟩
  obtain ⟨hT1, hT2⟩ := hfm live hsome
  have hmemT : ∀ a : Row, a ∈ (live.filterMap fun p => (es.toList[p.2]?).map (p.1, ·)) ↔ ∃ i, Own owner a.1 i ∧ es.toList[i]? = some a.2 := fun a => by
    rw [List.mem_filterMap]
    constructor
    · rintro ⟨p, hp, e⟩
      obtain ⟨x, hx, rfl⟩ := Option.map_eq_some_iff.mp e
      exact ⟨p.2, (hmemL p).mp hp, hx⟩
    · rintro ⟨i, h1, h2⟩
      exact ⟨(a.1, i), (hmemL _).mpr h1, by rw [h2]; rfl⟩
  have hp2 : ((live.filterMap fun p => (es.toList[p.2]?).map (p.1, ·)).map (·.2)).Perm es.toList := by
    rw [hT2]
    refine (hperm.filterMap _).trans ?_
    rw [filterMap_range_get]
  have harr : ((live.map (·.2)).toArray.filterMap (es[·]?)).toList = (live.filterMap fun p => (es.toList[p.2]?).map (p.1, ·)).map (·.2) := by
    rw [hT2]; simp
  generalize hTT : (live.filterMap fun p => (es.toList[p.2]?).map (p.1, ·)) = T' at hT1 hT2 hmemT hp2 harr
  have hlT : T'.length = T.length := by
    have := hp2.length_eq
    rw [List.length_map, I.el, List.length_map] at this
    exact this
  refine ⟨{ mask := 31, place := (live.map (·.1)).toArray, dummies := #[], finger := t.finger, led := t.led, moves := t.movedTo 31, plain := t.plain }, (live.map (·.2)).toArray, T', ?_, ⟨?_, harr, ?_, rfl, .inr rfl, ?_, ?_, ?_⟩, ?_, ?_, rfl, rfl, rfl⟩
  · unfold SetTable.relaid
    rw [hw]
    unfold SetTable.laid
    rw [hes, ho]
    subst hlv
    rfl
  · show (live.map (·.1)).toArray.toList = _
    rw [hT1]
  · have : (T'.map (·.1)).Pairwise (· < ·) := by
      rw [hT1, ← hlv, List.map_filterMap, List.pairwise_filterMap]
      refine List.Pairwise.imp (R := fun a b => a < b) (fun {a b} hab => ?_) List.pairwise_lt_range
      intro x hx y hy
      obtain ⟨_, h1, rfl⟩ := Option.map_eq_some_iff.mp hx
      obtain ⟨_, h2, rfl⟩ := Option.map_eq_some_iff.mp hy
      obtain ⟨_, _, rfl⟩ := Option.map_eq_some_iff.mp h1
      obtain ⟨_, _, rfl⟩ := Option.map_eq_some_iff.mp h2
      exact hab
    exact List.pairwise_map.mp this
  · intro a ha
    obtain ⟨i, h1, _⟩ := (hmemT a).mp ha
    exact (Lk.lt h1).1
  · intro a ha
    obtain ⟨i, h1, h2⟩ := (hmemT a).mp ha
    obtain ⟨x, hx, n, h3, h4⟩ := Lk.path _ _ h1
    rw [List.getElem?_map, h2] at hx
    have hx : a.2.1 = x := Option.some.inj hx
    subst hx
    refine ⟨n, h3, fun m hm => ?_⟩
    obtain ⟨i', hi'⟩ := h4 m hm
    have hlt := (Lk.lt hi').2
    rw [List.length_map] at hlt
    exact ⟨(J 31 a.2.1 m, es.toList[i']), (hmemT _).mpr ⟨i', hi', List.getElem?_eq_getElem hlt⟩, rfl⟩
  · show T'.length ≤ 31
    omega
  · rw [← Array.length_toList, harr, hp2.length_eq, Array.length_toList]
  · rw [← I.el]; exact hp2
end

end
section
open PySem.SetTable
section
variable {prog : Program} {w : World} {A : Around} {E : Value → Shared → Prop} {s : Shared}
def mixIs : Int ⊕ Str → Value → Bool
  | .inl k, v => Value.isInt k v
  | .inr x, v => Value.isStrOf x v
theorem eqBool_int_str {a : Int} {t u : Tok} {b : Str} {Q : Bool → Shared → Prop} (h : Q false s) : wpAny (model prog w) A (eqBool (.int a t) (.str b u)) Q E s := by
  unfold eqBool
  try with_reducible refine wpAny_holding ?_
  show wpAny _ _ (if (Value.int a t == Value.str b u) = true then _ else _) Q E s
  rw [if_neg (by intro q; have := eq_of_beq q; cases this)]
  exact wpAny_bind (wpAny_mono (PySem.EqMixed.eq_int_str (Q := fun v s' => v = .bool false ∧ s' = s) (E := E) ⟨rfl, rfl⟩) (fun v s' ⟨e1, e2⟩ => by subst e1; subst e2; exact wpAny_truthy_bool h) fun _ _ e => e)
theorem eqBool_str_int {a : Int} {t u : Tok} {b : Str} {Q : Bool → Shared → Prop} (h : Q false s) : wpAny (model prog w) A (eqBool (.str b u) (.int a t)) Q E s := by
  unfold eqBool
  try with_reducible refine wpAny_holding ?_
  show wpAny _ _ (if (Value.str b u == Value.int a t) = true then _ else _) Q E s
  rw [if_neg (by intro q; have := eq_of_beq q; cases this)]
  exact wpAny_bind (wpAny_mono (PySem.EqMixed.eq_str_int (Q := fun v s' => v = .bool false ∧ s' = s) (E := E) ⟨rfl, rfl⟩) (fun v s' ⟨e1, e2⟩ => by subst e1; subst e2; exact wpAny_truthy_bool h) fun _ _ e => e)
def mixKind (prog : Program) (w : World) : KeyKind prog w (Int ⊕ Str) where
  is := mixIs
  hash := fun k => match k with | .inl i => hashInt i | .inr x => hashStr w x
  inj := fun v a b ha hb => by
    match a, b, ha, hb with
    | .inl a, .inl b, ha, hb => rw [Value.isInt_inj v a b ha hb]
    | .inr a, .inr b, ha, hb => rw [Value.isStrOf_inj v a b ha hb]
    | .inl a, .inr b, ha, hb => obtain ⟨t, rfl⟩ := Value.isInt_shape ha; exact absurd hb (by simp [mixIs, Value.isStrOf])
    | .inr a, .inl b, ha, hb => obtain ⟨t, rfl⟩ := Value.isInt_shape hb; exact absurd ha (by simp [mixIs, Value.isStrOf])
  byValue := fun k v h => by
    match k, h with
    | .inl k, h => exact (intKind prog w).byValue k v h
    | .inr k, h => exact (strKind prog w).byValue k v h
  pyHash := fun {A E s k v Q} hv h => by
    match k, hv, h with
    | .inl k, hv, h => exact (intKind prog w).pyHash hv h
    | .inr k, hv, h => exact (strKind prog w).pyHash hv h
  eqBool := fun {A E s a b u v Q} hu hv h => by
    match a, b, hu, hv, h with
    | .inl a, .inl b, hu, hv, h => exact (intKind prog w).eqBool hu hv (by simpa using h)
    | .inr a, .inr b, hu, hv, h => exact (strKind prog w).eqBool hu hv (by simpa using h)
    | .inl a, .inr b, hu, hv, h =>
      obtain ⟨t, rfl⟩ := Value.isInt_shape hu
      obtain ⟨t', rfl⟩ := Value.isStrOf_shape hv
      exact eqBool_int_str (by simpa using h)
    | .inr a, .inl b, hu, hv, h =>
      obtain ⟨t, rfl⟩ := Value.isStrOf_shape hu
      obtain ⟨t', rfl⟩ := Value.isInt_shape hv
      exact eqBool_str_int (by simpa using h)
  «strs» := fun k x t v h => by
    match k, h with
    | .inl k, h => exact absurd h (by simp [mixIs, Value.isInt])
    | .inr k, h => exact (strKind prog w).strs k x t v h
def askL (q : Nat × Nat × Nat) : List (Int ⊕ Str) := [.inl (q.1 : Int), .inr (clsName q.2.1), .inr (clsName q.2.2)]
theorem askL_inj {q q' : Nat × Nat × Nat} (h : q.2.1 < 3 ∧ q.2.2 < 3) (h' : q'.2.1 < 3 ∧ q'.2.2 < 3) (e : askL q = askL q') : q = q' := by
  simp only [askL, List.cons.injEq, Sum.inl.injEq, Sum.inr.injEq, and_true] at e
  refine Prod.ext (by omega) (Prod.ext (clsName_inj h.1 h'.1 e.2.1) (clsName_inj h.2 h'.2 e.2.2))
def TupAsk (h : Heap) (a : Addr) (q : Nat × Nat × Nat) : Prop := ∃ t1 t2 t3, h.get? a = some (tupO [.int (q.1 : Int) t1, .str (clsName q.2.1) t2, .str (clsName q.2.2) t3])
theorem TupAsk.key {h : Heap} {a : Addr} {q : Nat × Nat × Nat} (x : TupAsk h a q) : IsTupleKey (mixKind prog w) h (askL q) a := by
  obtain ⟨t1, t2, t3, e⟩ := x
  refine ⟨_, _, _, e, rfl, rfl, ?_⟩
  exact .cons (by simp [mixKind, mixIs, Value.isInt]) (.cons (by simp [mixKind, mixIs, Value.isStrOf]) (.cons (by simp [mixKind, mixIs, Value.isStrOf]) .nil))
def askH (prog : Program) (w : World) (q : Nat × Nat × Nat) : Int := tupleKeyHash (mixKind prog w) (askL q)
/-- the rows of a set are asks -/
def AskRows (prog : Program) (w : World) (h : Heap) (T : List Row) (qs : List (Nat × Nat × Nat)) : Prop :=
  (∀ b ∈ T, ∃ a q, b.2 = (askH prog w q, .ref a) ∧ TupAsk h a q ∧ q ∈ qs) ∧ (∀ q ∈ qs, ∃ b ∈ T, ∃ a, b.2 = (askH prog w q, .ref a) ∧ TupAsk h a q)
theorem SetOK.fits_ {t : SetTable} {es : Array (Int × Value)} {T : List Row} (I : SetOK t es T) : t.fits es.size = true := by
  have h1 := I.psize
  have h2 := I.esize
  have h3 := I.room
  simp [SetTable.fits, SetTable.fill, I.dm, h1, h2, h3]
theorem SetOK.gave {t : SetTable} {es : Array (Int × Value)} {T : List Row} (I : SetOK t es T) : t.gaveWay = false := by
  unfold SetTable.gaveWay
  rcases I.mk7 with e | e <;> rw [e] <;> rfl
theorem TupAsk.ty {a : Addr} {q : Nat × Nat × Nat} (x : TupAsk s.heap a q) : s.TypeIs (.ref a) "tuple" := let ⟨_, _, _, e⟩ := x; ⟨_, e, rfl⟩
theorem of_class {a : Addr} {q : Nat × Nat × Nat} {Q : Bool → Shared → Prop} (x : TupAsk s.heap a q) (h : Q false s) : wpAny (model prog w) A (ofAClassStatement 8 (.ref a)) Q E s := by
  have hT := x.ty
  obtain ⟨t1, t2, t3, e⟩ := x
  unfold ofAClassStatement
  refine wpAny_bind (wpAny_typeOf hT ?_)
  dsimp only
  refine wpAny_bind ?_
  refine wpAny_pure ?_
  simp only [Bool.not_true, Bool.false_eq_true, if_false]
  refine wpAny_bind (wpAny_seqItems e rfl ?_)
  dsimp only
  refine wpAny_bind ?_
  rw [← Array.forIn_toList]
  simp only [List.forIn_cons, List.forIn_nil, ofAClassStatement]
  exact wpAny_bind (wpAny_bind (wpAny_pure (wpAny_pure (wpAny_bind (wpAny_bind (wpAny_pure (wpAny_pure (wpAny_bind (wpAny_bind (wpAny_pure (wpAny_pure (wpAny_pure (wpAny_pure h)))))))))))))
theorem could_ask {x : Addr} {q : Nat × Nat × Nat} {Q : Bool → Shared → Prop} (hx : TupAsk s.heap x q) (h : Q false s) : ∀ l : List Value, (∀ y ∈ l, ∃ a q', y = .ref a ∧ TupAsk s.heap a q') → wpAny (model prog w) A (searchCouldBeSeen (.ref x) l) Q E s := by
  intro l hl
  unfold searchCouldBeSeen
  refine wpAny_bind ?_
  refine wpAny_forIn_list _ (fun rest r s' => r.1 = none ∧ s' = s ∧ ∀ v ∈ rest, ∃ a q', v = .ref a ∧ TupAsk s.heap a q') _ ?_ ?_ _ _ ⟨rfl, rfl, hl⟩
  · rintro v rest r s' ⟨hr, rfl, hall⟩
    obtain ⟨a, q', rfl, ha⟩ := hall v List.mem_cons_self
    have hrest := fun u hu => hall u (List.mem_cons_of_mem _ hu)
    dsimp only
    split
    · exact wpAny_pure ⟨rfl, rfl, hrest⟩
    · refine wpAny_bind (wpAny_eqIsQuiet_tuple (hx.key (prog := prog) (w := w)) ?_)
      simp only [Bool.not_true, Bool.false_eq_true, if_false]
      refine wpAny_bind (wpAny_eqIsQuiet_tuple (ha.key (prog := prog) (w := w)) ?_)
      simp only [Bool.not_true, Bool.false_eq_true, if_false]
      refine wpAny_bind (of_class hx ?_)
      simp only [Bool.false_eq_true, if_false]
      refine wpAny_bind (of_class ha ?_)
      simp only [Bool.false_eq_true, if_false]
      exact wpAny_pure ⟨rfl, rfl, hrest⟩
  · rintro ⟨r1, r2⟩ s' ⟨hr, rfl, _⟩
    simp only at hr
    subst hr
    exact wpAny_pure h
theorem search_ask {S : Addr} {o : Obj} {es : Array (Int × Value)} {ep : Nat} {t : SetTable} {T : List Row} {qs : List (Nat × Nat × Nat)} {x : Addr} {q : Nat × Nat × Nat} {N : Nat} {Q : SetFound → Shared → Prop}
    (ho : s.heap.get? S = some o) (hd : o.data = .set es ep t) (I : SetOK t es T) (hr : AskRows prog w s.heap T qs) (hqs : ∀ q ∈ qs, q.2.1 < 3 ∧ q.2.2 < 3) (hx : TupAsk s.heap x q) (hq3 : q.2.1 < 3 ∧ q.2.2 < 3) (hu : A.units < cLine)
    (hN : ¬ Occ T (J t.mask (askH prog w q) N)) (hN2 : N ≤ 10 * (13 + t.mask)) (hO : ∀ m, m < N → Occ T (J t.mask (askH prog w q) m))
    (hin : q ∈ qs → Q (.there none) s) (hout : q ∉ qs → Q (.free (J t.mask (askH prog w q) N) false) s) :
    ∀ fuel n stand, stand.getD (t.probeStart (askH prog w q)) = pos t.mask (askH prog w q) n → n ≤ N → N - n < fuel → (∀ m, m < n → ∀ b ∈ T, b.1 = J t.mask (askH prog w q) m → ∀ a, b.2 = (askH prog w q, .ref a) → ¬ TupAsk s.heap a q) →
      wpAny (model prog w) A (setSearchFrom S (.ref x) (askH prog w q) true fuel stand) Q E s := by
  intro fuel
  induction fuel with
  | zero => intro n stand _ _ hf; omega
  | succ fuel ih =>
    intro n stand hst hn hf hprev
    unfold setSearchFrom
    refine wpAny_bind (wpAny_setState_of ho hd I.fits_ ?_)
    dsimp only
    rw [I.gave, hst]
    simp only [Bool.false_eq_true, if_false]
    have key : ∀ (f : Nat → Int) r, (∀ i b, T[i]? = some b → f i = b.2.1) → t.probe f (askH prog w q) (pos t.mask (askH prog w q) n) = r →
        (r = some (.empty (J t.mask (askH prog w q) N) none) ∧ ∀ m, n ≤ m → m < N → ∀ b ∈ T, b.1 = J t.mask (askH prog w q) m → b.2.1 ≠ askH prog w q) ∨
        ∃ m i b, n ≤ m ∧ m < N ∧ T[i]? = some b ∧ b.1 = J t.mask (askH prog w q) m ∧ b.2.1 = askH prog w q ∧ r = some (.candidate (J t.mask (askH prog w q) m) i (pos t.mask (askH prog w q) (m + 1))) ∧ ∀ m', n ≤ m' → m' < m → ∀ b ∈ T, b.1 = J t.mask (askH prog w q) m' → b.2.1 ≠ askH prog w q := fun f r hf' e => by
      subst e
      exact I.go hf' hN hO _ n hn (by unfold turns; omega)
    split
    · rename_i met heq
      rcases key _ _ (fun i b hb => by show ((es[i]?).map (·.1)).getD 0 = _; rw [I.eget, hb]; rfl) heq with ⟨e, hno⟩ | ⟨m, i, b, h1, h2, h3, h4, h5, e, h7⟩
      · obtain rfl := Option.some.inj e
        dsimp only
        refine wpAny_pure (hout fun hq => ?_)
        obtain ⟨b, hb, a, e2, ha⟩ := hr.2 q hq
        obtain ⟨n', hn', e3⟩ := I.before hN hb (by rw [e2])
        rcases Nat.lt_or_ge n' n with h | h
        · exact hprev n' h b hb e3 a e2 ha
        · exact hno n' h hn' b hb e3 (by rw [e2])
      · obtain rfl := Option.some.inj e
        dsimp only
        have hbm := List.mem_of_getElem? h3
        obtain ⟨a, q', e2, ha, hq'⟩ := hr.1 b hbm
        have he : es[i]? = some (askH prog w q', .ref a) := by rw [I.eget, h3]; show some b.2 = _; rw [e2]
        have hlist : ∀ y ∈ List.map (fun x : Int × Value => x.2) (Array.filter (fun x : Int × Value => x.1 == askH prog w q) es).toList, ∃ a q', y = .ref a ∧ TupAsk s.heap a q' := fun y hy => by
          obtain ⟨e, he, rfl⟩ := List.mem_map.mp hy
          have he : e ∈ es.toList := by
            rw [Array.toList_filter] at he
            exact (List.mem_filter.mp he).1
          rw [I.el] at he
          obtain ⟨b', hb', rfl⟩ := List.mem_map.mp he
          obtain ⟨a', q'', e3, ha', _⟩ := hr.1 b' hb'
          exact ⟨a', q'', by rw [e3], ha'⟩
        have hsl : t.slot (J t.mask (askH prog w q) m) = .live i := by rw [← h4]; exact I.live h3
        have hsm : t.sameMemory t.moves t.mask = some true := by unfold SetTable.sameMemory; simp
        split
        · refine wpAny_bind (could_ask hx ?_ _ hlist)
          simp only [Bool.false_eq_true, if_false]
          rw [he]
          dsimp only
          refine wpAny_bind (wpAny_holding (wpAny_eqBool_tuple hu (ha.key (prog := prog) (w := w)) (hx.key (prog := prog) (w := w)) ?_))
          refine wpAny_bind (wpAny_setState_of ho hd I.fits_ ?_)
          by_cases hqq : q' = q
          · subst hqq
            rw [decide_eq_true rfl]
            exact wpAny_pure (hin hq')
          · rw [decide_eq_false (fun e => hqq (askL_inj (hqs _ hq') hq3 e))]
            simp only [Bool.and_false, Bool.false_eq_true, if_false]
            rw [hsm]
            dsimp only
            rw [if_pos rfl, hsl]
            dsimp only
            rw [he]
            dsimp only
            refine wpAny_bind (wpAny_isSame_ref_self ?_)
            refine wpAny_bind (wpAny_pure ?_)
            rw [if_pos rfl]
            dsimp only
            refine ih (m + 1) (some _) rfl (by omega) (by omega) fun m' hm' b' hb' e3 a' e4 ha' => ?_
            rcases Nat.lt_or_ge m' n with h | h
            · exact hprev m' h b' hb' e3 a' e4 ha'
            · rcases Nat.lt_or_ge m' m with h8 | h8
              · exact h7 m' h h8 b' hb' e3 (by rw [e4])
              · obtain rfl : m' = m := by omega
                have hbb : b' = b := I.uniq hb' hbm (e3.trans h4.symm)
                subst hbb
                rw [e2] at e4
                have e5 : a = a' := by have := congrArg (·.2) e4; dsimp only at this; injection this
                subst e5
                exact hqq (askL_inj (hqs _ hq') hq3 (IsTupleKey.inj (ha.key (prog := prog) (w := w)) (ha'.key (prog := prog) (w := w))))
        · skip
          rw [he]
          dsimp only
          refine wpAny_bind (wpAny_holding (wpAny_eqBool_tuple hu (ha.key (prog := prog) (w := w)) (hx.key (prog := prog) (w := w)) ?_))
          refine wpAny_bind (wpAny_setState_of ho hd I.fits_ ?_)
          by_cases hqq : q' = q
          · subst hqq
            rw [decide_eq_true rfl]
            exact wpAny_pure (hin hq')
          · rw [decide_eq_false (fun e => hqq (askL_inj (hqs _ hq') hq3 e))]
            simp only [Bool.and_false, Bool.false_eq_true, if_false]
            rw [hsm]
            dsimp only
            rw [if_pos rfl, hsl]
            dsimp only
            rw [he]
            dsimp only
            refine wpAny_bind (wpAny_isSame_ref_self ?_)
            refine wpAny_bind (wpAny_pure ?_)
            rw [if_pos rfl]
            dsimp only
            refine ih (m + 1) (some _) rfl (by omega) (by omega) fun m' hm' b' hb' e3 a' e4 ha' => ?_
            rcases Nat.lt_or_ge m' n with h | h
            · exact hprev m' h b' hb' e3 a' e4 ha'
            · rcases Nat.lt_or_ge m' m with h8 | h8
              · exact h7 m' h h8 b' hb' e3 (by rw [e4])
              · obtain rfl : m' = m := by omega
                have hbb : b' = b := I.uniq hb' hbm (e3.trans h4.symm)
                subst hbb
                rw [e2] at e4
                have e5 : a = a' := by have := congrArg (·.2) e4; dsimp only at this; injection this
                subst e5
                exact hqq (askL_inj (hqs _ hq') hq3 (IsTupleKey.inj (ha.key (prog := prog) (w := w)) (ha'.key (prog := prog) (w := w))))
    · rename_i heq
      have hex : ∀ (f : Nat → Int), (∀ i b, T[i]? = some b → f i = b.2.1) → ∃ met, t.probe f (askH prog w q) (pos t.mask (askH prog w q) n) = some met := fun f hf' => by
        rcases key f _ hf' rfl with ⟨e, _⟩ | ⟨_, _, _, _, _, _, _, _, e, _⟩
        · exact ⟨_, e⟩
        · exact ⟨_, e⟩
      exact ((hex _ (fun i b hb => by show ((es[i]?).map (·.1)).getD 0 = _; rw [I.eget, hb]; rfl)).elim heq).elim
end

end
section
open PySem.SetTable
section
variable {prog : Program} {w : World} {A : Around} {E : Value → Shared → Prop} {s : Shared} {h h' : Heap} {S a x : Addr} {led : Bool} {qs : List (Nat × Nat × Nat)} {q : Nat × Nat × Nat}
abbrev setO (es : Array (Int × Value)) (ep : Nat) (t : SetTable) : Obj := { cls := .type "set", dict := none, data := .set es ep t }
def rowOf (prog : Program) (w : World) (p : Addr × Nat × Nat × Nat) : Int × Value := (askH prog w p.2, .ref p.1)
structure AskB (q : Nat × Nat × Nat) : Prop where
  s : q.1 < 2
  l : q.2.1 < 3
  u : q.2.2 < 3
def SetA (prog : Program) (w : World) (h : Heap) (S : Addr) (led : Bool) (qs : List (Nat × Nat × Nat)) (vs : List (Addr × Nat × Nat × Nat)) : Prop :=
  ∃ (es : Array (Int × Value)) (ep : Nat) (t : SetTable) (T : List Row) (Aq : List (Addr × Nat × Nat × Nat)), h.get? S = some (setO es ep t) ∧ SetOK t es T ∧ t.led = led ∧ (T.map (·.2)).Perm (Aq.map (rowOf prog w)) ∧ Aq.map (·.2) = qs ∧ (∀ p ∈ Aq, TupAsk h p.1 p.2) ∧ (t.mask = 7 → T.length ≤ 4) ∧ ∀ p ∈ Aq, p ∈ vs
theorem qs_len (hn : qs.Nodup) (hb : ∀ q ∈ qs, AskB q) : qs.length ≤ 18 := by
  have h2 := nodup_len (l := qs.map fun q : Nat × Nat × Nat => 9 * q.1 + 3 * q.2.1 + q.2.2) (l' := List.range 18) ?_ fun x hx => ?_
  · rw [List.length_map, List.length_range] at h2; exact h2
  · rw [List.nodup_iff_pairwise_ne, List.pairwise_map]
    refine List.Pairwise.imp_of_mem (R := fun a b => a ≠ b) (fun {a b} ha hb' hne e => hne ?_) (List.nodup_iff_pairwise_ne.mp hn)
    have h1 := hb a ha
    have h2 := hb b hb'
    have := h1.s; have := h1.l; have := h1.u; have := h2.s; have := h2.l; have := h2.u
    exact Prod.ext (by omega) (Prod.ext (by omega) (by omega))
  · obtain ⟨q, hq, rfl⟩ := List.mem_map.mp hx
    have h1 := hb q hq
    have := h1.s; have := h1.l; have := h1.u
    exact List.mem_range.mpr (by omega)
theorem TupAsk.same (x : TupAsk h a q) (hs : Heap.SameBut S h h') (hne : a ≠ S) : TupAsk h' a q := let ⟨t1, t2, t3, e⟩ := x; ⟨t1, t2, t3, (hs.2 a hne).trans e⟩
theorem TupAsk.ne {es ep t} (x : TupAsk h a q) (ho : h.get? S = some (setO es ep t)) : a ≠ S := fun e => by
  obtain ⟨t1, t2, t3, e'⟩ := x
  rw [e, ho] at e'
  injection e' with e'
  have := congrArg Obj.cls e'
  simp at this
theorem rows_of {T : List Row} {Aq : List (Addr × Nat × Nat × Nat)} (hp : (T.map (·.2)).Perm (Aq.map (rowOf prog w))) (ha : ∀ p ∈ Aq, TupAsk h p.1 p.2) : AskRows prog w h T (Aq.map (·.2)) := by
  constructor
  · intro b hb
    have := hp.mem_iff.mp (List.mem_map_of_mem (f := (·.2)) hb)
    obtain ⟨p, hp', e⟩ := List.mem_map.mp this
    exact ⟨p.1, p.2, e.symm, ha p hp', List.mem_map_of_mem hp'⟩
  · intro q hq
    obtain ⟨p, hp', rfl⟩ := List.mem_map.mp hq
    have := hp.mem_iff.mpr (List.mem_map_of_mem (f := rowOf prog w) hp')
    obtain ⟨b, hb, e⟩ := List.mem_map.mp this
    exact ⟨b, hb, p.1, e, ha p hp'⟩
theorem hash_val {Q : Bool → Shared → Prop} (hx : TupAsk s.heap a q) (h : Q false s) : wpAny (model prog w) A (hashByValue 8 (.ref a)) Q E s := by
  have hT := hx.ty
  obtain ⟨t1, t2, t3, e⟩ := hx
  unfold hashByValue
  refine wpAny_bind (wpAny_specialOf hT F.slot_tuple_hash.lookup ?_)
  dsimp only
  refine wpAny_bind (wpAny_seqItems e rfl ?_)
  dsimp only [Option.getD]
  refine wpAny_bind ?_
  rw [← Array.forIn_toList]
  simp only [List.forIn_cons, List.forIn_nil, hashByValue]
  refine wpAny_bind (wpAny_bind (wpAny_pure ?_))
  simp only [Bool.not_true, Bool.not_false, Bool.false_eq_true, if_false, if_true]
  refine wpAny_pure ?_
  refine wpAny_bind (wpAny_bind (wpAny_pure ?_))
  simp only [Bool.not_true, Bool.not_false, Bool.false_eq_true, if_false, if_true]
  exact wpAny_pure (wpAny_pure (wpAny_pure h))
theorem set_store {es es' : Array (Int × Value)} {ep : Nat} {t t' : SetTable} {Q : Unit → Shared → Prop} (ho : s.heap.get? S = some (setO es ep t)) (hz : es'.size ≤ 100)
    (h : ∀ h', h'.get? S = some (setO es' (ep + 1) t') → Heap.SameBut S s.heap h' → Q () { s with heap := h' }) : wpAny (model prog w) A (storeSet S es' t') Q E s := by
  refine wpAny_storeSet_of ho rfl (h _ ?_ (Heap.SameBut.update ..)) (by rw [sizeLine_eq]; omega)
  have := Heap.get?_update_self (Obj.putSet es' t') ho (by rw [putSet_of es' t' rfl]; rfl)
  rw [putSet_of es' t' rfl] at this
  exact this
theorem SetOK.unplain {t : SetTable} {es : Array (Int × Value)} {T : List Row} (I : SetOK t es T) (b : Bool) : SetOK { t with plain := b } es T := ⟨I.pl, I.el, I.up, I.dm, I.mk7, I.le, I.path, I.room⟩
theorem set_relay {es : Array (Int × Value)} {ep : Nat} {t : SetTable} {T : List Row} {wanted : Nat} {Q : Unit → Shared → Prop} (ho : s.heap.get? S = some (setO es ep t)) (I : SetOK t es T) (hl : T.length ≤ 18) (hw : sizeAbove wanted = 32)
    (h : ∀ h' es' ep' t' T', h'.get? S = some (setO es' ep' t') → Heap.SameBut S s.heap h' → SetOK t' es' T' → (T'.map (·.2)).Perm (T.map (·.2)) → t'.mask = 31 → t'.led = t.led → Q () { s with heap := h' }) : wpAny (model prog w) A (setRelay S wanted) Q E s := by
  obtain ⟨t', order, T', h1, h2, h3, h4, h5, h6, h7⟩ := I.relaid_ hl (wanted := wanted) (by rw [hw])
  unfold setRelay
  refine wpAny_bind (wpAny_setState_of ho rfl I.fits_ ?_)
  dsimp only
  rw [hw, h1, if_neg (by rw [sizeLine_eq]; omega)]
  refine wpAny_bind ?_
  show wpAny _ _ (if ((order.filterMap (es[·]?)).size != es.size) = true then _ else _) _ _ _
  rw [h3, if_neg (by simp)]
  refine wpAny_pure ?_
  refine set_store ho (by rw [h2.esize]; have := h2.room; omega) fun h' e1 e2 => h h' _ _ _ T' e1 e2 h2 h4 h5 h6
theorem set_add {Q : Bool → Shared → Prop} {vs : List (Addr × Nat × Nat × Nat)} (hS : SetA prog w s.heap S led qs vs) (hn : qs.Nodup) (hb : ∀ q ∈ qs, AskB q) (hx : TupAsk s.heap x q) (hq : AskB q) (hu : A.units < cLine) (hv : (x, q) ∈ vs)
    (h : ∀ b h' tk, Heap.SameBut S s.heap h' → SetA prog w h' S led (if q ∈ qs then qs else qs ++ [q]) vs → Q b { s with heap := h', toks := tk }) : wpAny (model prog w) A (setAdd S (.ref x)) Q E s := by
  unfold setAdd
  refine wpAny_holding (wpAny_bind (wpAny_pyHash_tuple hu (hx.key (prog := prog) (w := w)) ?_))
  show wpAny _ _ (setAddHashed S (.ref x) (askH prog w q)) _ _ _
  unfold setAddHashed setAddHashedIn
  generalize s.toks + ((askL q).length + 1) = tk
  obtain ⟨es, ep, t, T, Aq, ho, I, hled, hp, e, ha, hm, hvs⟩ := id hS
  have hr := rows_of (prog := prog) (w := w) hp ha
  rw [e] at hr
  have hlen : T.length = qs.length := by have := hp.length_eq; rw [List.length_map, List.length_map] at this; rw [this, ← e, List.length_map]
  have hl18 := qs_len hn hb
  obtain ⟨N, hN1, hN2, hN3⟩ := I.first (askH prog w q)
  have hx' : TupAsk ({ s with toks := tk } : Shared).heap x q := hx
  refine wpAny_holding (wpAny_bind (wpAny_setState_of (s := { s with toks := tk }) ho rfl I.fits_ ?_))
  dsimp only
  rw [show byScan (.ref x) es = false by rfl]
  simp only [Bool.false_eq_true, if_false]
  unfold setSearch
  refine wpAny_bind (search_ask (s := { s with toks := tk }) ho rfl I hr (fun q hq => ⟨(hb q hq).l, (hb q hq).u⟩) hx' ⟨hq.l, hq.u⟩ hu hN2 hN1 hN3 (fun hin => ?_) (fun hout => ?_) 100000 0 none rfl (Nat.zero_le _) (by have := I.mk7; omega) (fun m hm => by omega))
  · dsimp only
    have := h false s.heap tk (Heap.SameBut.refl S s.heap)
    rw [if_pos hin] at this
    exact wpAny_pure (this hS)
  · dsimp only
    refine wpAny_bind (wpAny_setState_of (s := { s with toks := tk }) ho rfl I.fits_ ?_)
    dsimp only
    have hl17 := qs_len (qs := q :: qs) (List.nodup_cons.mpr ⟨hout, hn⟩) (fun q' hq' => (List.mem_cons.mp hq').elim (fun e => e ▸ hq) (hb q'))
    rw [List.length_cons] at hl17
    have hroom : T.length + 1 ≤ t.mask := by
      rcases I.mk7 with e | e
      · have := hm e; omega
      · omega
    obtain ⟨T', I', hp', hl', hpl', hm'⟩ := I.put_ (x := .ref x) hN2 hN3 hroom
    generalize t.put (J t.mask (askH prog w q) N) = tp at I' hl' hpl' hm'
    have hsz : (insertAt es tp.2 (askH prog w q, Value.ref x)).size = T.length + 1 := by rw [I'.esize, hp'.length_eq, List.length_cons]
    have hTl : T'.length = T.length + 1 := by rw [hp'.length_eq, List.length_cons]
    have hout2 : ∀ (h' : Heap) (es' : Array (Int × Value)) (ep' : Nat) (t' : SetTable) (T'' : List Row), h'.get? S = some (setO es' ep' t') → Heap.SameBut S s.heap h' → SetOK t' es' T'' → (T''.map (·.2)).Perm (T'.map (·.2)) → t'.led = t.led → (t'.mask = 7 → T''.length ≤ 4) → Q true { s with heap := h', toks := tk } := by
      intro h' es' ep' t' T'' e1 e2 I2 hp2 hl2 hm2
      refine h true h' tk e2 ?_
      rw [if_neg hout]
      refine ⟨es', ep', t', T'', Aq ++ [(x, q)], e1, I2, hl2.trans hled, ?_, by rw [List.map_append, e]; rfl, fun p hp3 => ?_, hm2, fun p hp3 => (List.mem_append.mp hp3).elim (hvs p) fun h3 => by simp at h3; subst h3; exact hv⟩
      · refine hp2.trans ((hp'.map _).trans ?_)
        rw [List.map_cons, List.map_append]
        exact (List.Perm.cons _ hp).trans (List.perm_append_singleton _ _).symm
      · rcases List.mem_append.mp hp3 with h3 | h3
        · exact (ha p h3).same e2 ((ha p h3).ne ho)
        · simp at h3; subst h3; exact hx.same e2 (hx.ne ho)
    have tail : ∀ tq : SetTable, SetOK tq (insertAt es tp.2 (askH prog w q, Value.ref x)) T' → tq.led = t.led → tq.mask = t.mask →
        wpAny (model prog w) A (do
          storeSet S (insertAt es tp.2 (askH prog w q, Value.ref x)) tq
          if (!false && tq.tooFull) = true then do
            setRelay S (grown (es.size + 1))
            pure true
          else pure true) Q E { s with toks := tk } := by
      intro tq Iq hlq hmq
      refine wpAny_bind (set_store (s := { s with toks := tk }) ho (by rw [hsz]; omega) fun h₁ e1 e2 => ?_)
      have hfill : tq.fill = T.length + 1 := by
        have := Iq.psize
        simp [SetTable.fill, Iq.dm, this, hTl]
      by_cases hf : tq.tooFull = true
      · rw [if_pos (by rw [hf]; rfl)]
        have hf' : (T.length + 1) * 5 ≥ tq.mask * 3 := by
          unfold SetTable.tooFull at hf
          rw [hfill] at hf
          simpa using hf
        have h4 : T.length = 4 := by
          rcases I.mk7 with em | em
          · have := hm em; rw [hmq, em] at hf'; omega
          · rw [hmq, em] at hf'; omega
        refine wpAny_bind (set_relay e1 Iq (by omega) (by rw [I.esize, h4]; decide) fun h₂ es₂ ep₂ t₂ T₂ g1 g2 g3 g4 g5 g6 => ?_)
        exact wpAny_pure (hout2 h₂ es₂ ep₂ t₂ T₂ g1 (e2.trans g2) g3 g4 (g6.trans hlq) (fun e7 => by rw [g5] at e7; cases e7))
      · rw [if_neg (by simpa using hf)]
        refine wpAny_pure (hout2 h₁ _ _ tq T' e1 e2 Iq (List.Perm.refl _) hlq fun em => ?_)
        have hf' : ¬ ((T.length + 1) * 5 ≥ tq.mask * 3) := by
          unfold SetTable.tooFull at hf
          rw [hfill] at hf
          simpa using hf
        rw [em] at hf'
        omega
    split
    · refine wpAny_bind (hash_val hx' ?_)
      simp only [Bool.false_eq_true, if_false]
      exact tail _ (I'.unplain false) hl' hm'
    · refine wpAny_bind (wpAny_pure ?_)
      simp only [if_true]
      exact tail _ I' hl' hm'
end

end
section
open PySem.SetTable
def stepA (acc : List (Nat × Nat × Nat)) (q : Nat × Nat × Nat) : List (Nat × Nat × Nat) := if q ∈ acc then acc else acc ++ [q]
def dedupA (l : List (Nat × Nat × Nat)) : List (Nat × Nat × Nat) := l.foldl stepA []
theorem dedupA_snoc (l : List (Nat × Nat × Nat)) (q : Nat × Nat × Nat) : dedupA (l ++ [q]) = stepA (dedupA l) q := by unfold dedupA; rw [List.foldl_append]; rfl
theorem stepA_mem {acc : List (Nat × Nat × Nat)} {q x : Nat × Nat × Nat} : x ∈ stepA acc q ↔ x ∈ acc ∨ x = q := by
  unfold stepA
  split
  · constructor
    · exact .inl
    · rintro (h | rfl) <;> assumption
  · simp
theorem dedupA_ok (l : List (Nat × Nat × Nat)) : (dedupA l).Nodup ∧ ∀ x, x ∈ dedupA l ↔ x ∈ l := by
  refine snoc_ind (P := fun l => (dedupA l).Nodup ∧ ∀ x, x ∈ dedupA l ↔ x ∈ l) ⟨List.nodup_nil, fun _ => Iff.rfl⟩ (fun l q ⟨h1, h2⟩ => ?_) l
  rw [dedupA_snoc]
  refine ⟨?_, fun x => by rw [stepA_mem, h2]; simp⟩
  unfold stepA
  split
  · exact h1
  · rename_i hq
    rw [List.nodup_append]
    exact ⟨h1, by simp, fun a ha b hb e => by simp at hb; subst hb; subst e; exact hq ha⟩
section
variable {prog : Program} {w : World} {A : Around} {E : Value → Shared → Prop} {s : Shared} {S I : Addr} {led : Bool} {R : Result → Shared → Prop} {fp wr : List Addr} {n : Nat} {P : Nat → Value → Prop} {St : Nat → Heap → Prop}
def ledOf (w : World) : Bool := !(w.params.followText "set-order")
theorem ask_loop (W : Walks prog w A.in1 I fp wr n P St) (hSf : S ∉ fp) (vals : List (Addr × Nat × Nat × Nat)) (hn : vals.length = n) (hval : ∀ i v, P i v → ∃ p, vals[i]? = some p ∧ v = .ref p.1) (hw : ∀ p ∈ vals, p.1 ∉ wr) (hb : ∀ p ∈ vals, AskB p.2) (hu : A.in1.units < cLine) :
    ∀ (k i : Nat) (s : Shared), n - i = k → i ≤ n → St i s.heap → SetA prog w s.heap S led (dedupA ((vals.take i).map (·.2))) vals → (∀ p ∈ vals, TupAsk s.heap p.1 p.2) →
      (∀ h' tk, (∀ b o, b ≠ S → b ∉ wr → s.heap.get? b = some o → h'.get? b = some o) → SetA prog w h' S led (dedupA (vals.map (·.2))) vals → R (.ok (.ret .none)) { s with heap := h', toks := tk }) →
      codeAny (model prog w) A (.builtin "set.update.loop" ⟨[.ref S, .ref I], []⟩) R s := by
  have hSw : S ∉ wr := fun h => hSf (W.sub _ h)
  intro k
  induction k with
  | zero =>
    intro i s hk hi hst hS hT hR
    have hin : i = n := by omega
    subst hin
    refine codeAny_builtin F.entry_set_update_loop ?_
    rw [Around.under_plainId F.plain_set_update_loop _]
    show wpAny _ A.in1 (pyNext (.ref I) >>= _) _ _ s
    refine wpAny_bind (W.done _ _ _ hst fun h₁ tk₁ hk₁ => ?_)
    show wpAny _ A.in1 (ret Value.none) _ _ _
    refine wpAny_pure (hR h₁ tk₁ (fun b o hbS hbw e => hk₁ b o hbw e) ?_)
    rw [← hn, List.take_length] at hS
    obtain ⟨es, ep, t, T, Aq, ho, rest⟩ := hS
    obtain ⟨r1, r2, r3, r4, r5, r6, r7⟩ := rest
    exact ⟨es, ep, t, T, Aq, hk₁ S _ hSw ho, r1, r2, r3, r4, fun p hp => by
      have hm : p.1 ∉ wr := hw p (r7 p hp)
      obtain ⟨t1, t2, t3, e⟩ := r5 p hp
      exact ⟨t1, t2, t3, hk₁ _ _ hm e⟩, r6, r7⟩
  | succ k ih =>
    intro i s hk hi hst hS hT hR
    have hlt : i < n := by omega
    refine codeAny_builtin F.entry_set_update_loop ?_
    rw [Around.under_plainId F.plain_set_update_loop _]
    show wpAny _ A.in1 (pyNext (.ref I) >>= _) _ _ s
    refine wpAny_bind (W.item i _ _ _ hlt hst fun v h₁ tk₁ hPv hst₁ hk₁ => ?_)
    obtain ⟨p, hp, rfl⟩ := hval i v hPv
    have hpm := List.mem_of_getElem? hp
    have hT₁ : ∀ p ∈ vals, TupAsk h₁ p.1 p.2 := fun p hp => let ⟨t1, t2, t3, e⟩ := hT p hp; ⟨t1, t2, t3, hk₁ _ _ (hw p hp) e⟩
    have hS₁ : SetA prog w h₁ S led (dedupA ((vals.take i).map (·.2))) vals := by
      obtain ⟨es, ep, t, T, Aq, ho, r1, r2, r3, r4, r5, r6, r7⟩ := hS
      exact ⟨es, ep, t, T, Aq, hk₁ S _ hSw ho, r1, r2, r3, r4, fun p hp => hT₁ p (r7 p hp) |> fun x => (by
        obtain ⟨t1, t2, t3, e⟩ := r5 p hp
        exact ⟨t1, t2, t3, hk₁ _ _ (hw p (r7 p hp)) e⟩), r6, r7⟩
    have hd := dedupA_ok ((vals.take i).map (·.2))
    show wpAny _ A.in1 (holding [Value.ref p.1] (setAdd S (.ref p.1)) >>= _) _ _ _
    refine wpAny_bind (wpAny_holding (set_add (s := { s with heap := h₁, toks := tk₁ }) hS₁ hd.1 (fun q hq => ?_) (hT₁ p hpm) (hb p hpm) hu hpm fun b h₂ tk₂ hsb hS₂ => ?_))
    · obtain ⟨p', hp', rfl⟩ := List.mem_map.mp ((hd.2 q).mp hq)
      exact hb p' (List.mem_of_mem_take hp')
    · have e1 : vals.take (i + 1) = vals.take i ++ [p] := by rw [List.take_add_one, hp]; rfl
      have e2 : dedupA ((vals.take (i + 1)).map (·.2)) = (if p.2 ∈ dedupA ((vals.take i).map (·.2)) then dedupA ((vals.take i).map (·.2)) else dedupA ((vals.take i).map (·.2)) ++ [p.2]) := by
        rw [e1, List.map_append]
        show dedupA (_ ++ [p.2]) = _
        rw [dedupA_snoc]; rfl
      have hSo : ∃ es ep t, h₁.get? S = some (setO es ep t) := let ⟨es, ep, t, _, _, ho, _⟩ := hS₁; ⟨es, ep, t, ho⟩
      obtain ⟨es, ep, t, ho⟩ := hSo
      refine wpAny_pure ⟨plainId_quiet F.plain_set_update_loop _, ih (i + 1) _ (by omega) hlt (W.frame _ _ _ hst₁ fun b hb' o e => ?_) (by rw [e2]; exact hS₂) (fun p hp => (hT₁ p hp).same hsb ((hT₁ p hp).ne ho)) fun h₃ tk₃ hk₃ hS₃ => ?_⟩
      · rw [hsb.2 b (fun h : b = S => hSf (by rw [← h]; exact hb'))]; exact e
      · refine hR h₃ tk₃ (fun b o hbS hbw e => ?_) hS₃
        refine hk₃ b o hbS hbw ?_
        show h₂.get? b = some o
        rw [hsb.2 b hbS]
        exact hk₁ b o hbw e
end

end
section
open PySem.SetTable
section
variable {prog : Program} {w : World} {A : Around} {E : Value → Shared → Prop} {s : Shared}
theorem code_set_new_led (a : Value) {Q₁ : Value → Shared → Prop}
    (h : Q₁ (.ref s.heap.objs.size) { s with heap := s.heap.push { cls := .type "set", dict := none, data := .set #[] 0 (.fresh 0 0 (ledOf w)) } }) :
    codeAny (model prog w) A (.call (.builtin "set.__new__") ⟨[.type "set", a], []⟩) (wants Q₁ E) s := by
  refine codeAny_of_tree ?_
  show wpAny _ A.in1 (do checkBuiltinCall "set.__new__" ⟨[.type "set", a], []⟩; again (.builtin "set.__new__" ⟨[.type "set", a], []⟩)) _ _ s
  refine wpAny_bind (wpAny_of_eq (PySem.F.newCall_set_1 a) (wpAny_pure ⟨plainId_quiet PySem.F.plain_set_new _, codeAny_builtin PySem.F.entry_set_new ?_⟩))
  rw [Around.under_plainId PySem.F.plain_set_new _]
  unfold Builtin.«set.__new__» Builtin.Frozenset.newClass
  have hsub := sub_set_self
  obtain ⟨hp, g, d, tk, os⟩ := s
  dsimp only
  wp_walk
  refine wpAny_askSetting (wpAny_pure ?_)
  dsimp only
  simp only [newObj]
  refine wpAny_bind (wpAny_alloc (wpAny_pure ?_))
  exact wpAny_pure h
set_option maxHeartbeats 3200000 in
theorem call_set_asks {l : Addr} {vals : List (Addr × Nat × Nat × Nat)} {Q : Value → Shared → Prop}
    (hh : A.handled = none) (hu : A.units + 10 < cLine) (hl : s.heap.IsList l (vals.map fun p => Value.ref p.1).toArray) (hT : ∀ p ∈ vals, TupAsk s.heap p.1 p.2) (hb : ∀ p ∈ vals, AskB p.2)
    (h : ∀ (h' : Heap) (tk : Nat), SetA prog w h' s.heap.objs.size (ledOf w) (dedupA (vals.map (·.2))) vals →
      (∀ b o, b < s.heap.objs.size → s.heap.get? b = some o → h'.get? b = some o) → Q (.ref s.heap.objs.size) { s with heap := h', toks := tk }) :
    wpAny (model prog w) A (call (.type "set") [.ref l]) Q E s := by
  obtain ⟨c, tl, hmro⟩ := F.called_set.mro
  have hmade := F.called_set.made
  have hsub := F.called_set.sub
  refine wpAny_call (codeAny_of_tree ?_)
  show wpAny _ _ (callAny (.type "set") _) _ _ _
  refine wpAny_pure ⟨Code.quiet_builtin _ (by decide +kernel), codeAny_builtin F.entry_type_call ?_⟩
  rw [Around.under_plain (weight_type_call_type "set" [.ref l] []) rfl]
  have h1 := F.called_set.notType
  have h2 := F.called_set.canCreate
  have hct := F.typeCall_set_1 (.ref l)
  repeat (any_goals (first | assumption | wp_step))
  refine codeAny_mono (code_set_new_led (.ref l) (E := E) (Q₁ := fun obj s₁ => obj = .ref s.heap.objs.size ∧ s₁ = { s with heap := s.heap.push { cls := .type "set", dict := none, data := .set #[] 0 (.fresh 0 0 (ledOf w)) } }) ⟨rfl, rfl⟩) fun r s₁ hr => ?_
  cases r with
  | error e => exact hr
  | ok fl =>
    cases fl with
    | ret obj =>
      obtain ⟨rfl, rfl⟩ := hr
      have hS : (s.heap.push { cls := .type "set", dict := none, data := .set #[] 0 (.fresh 0 0 (ledOf w)) }).get? s.heap.objs.size = some { cls := .type "set", dict := none, data := .set #[] 0 (.fresh 0 0 (ledOf w)) } := Heap.get?_push_size _ rfl
      have hTy : Shared.TypeIs { s with heap := s.heap.push { cls := .type "set", dict := none, data := .set #[] 0 (.fresh 0 0 (ledOf w)) } } (.ref s.heap.objs.size) "set" := ⟨_, hS, rfl⟩
      have hli := F.called_set.init.lookup
      have hbi := F.called_set.init.bind (.ref s.heap.objs.size)
      repeat (any_goals (first | assumption | wp_step))
      refine codeAny_mono (codeAny_call_builtin (R := wants (fun r s₂ => r = .none ∧ ∃ h' tk, s₂ = { s with heap := h', toks := tk } ∧
          SetA prog w h' s.heap.objs.size (ledOf w) (dedupA (vals.map (·.2))) vals ∧
          (∀ b o, b < s.heap.objs.size → s.heap.get? b = some o → h'.get? b = some o)) E) F.called_set.init.plain F.entry_set_init (check_set_init_1 hTy ?_)) fun r₂ s₂ hr₂ => ?_
      · obtain ⟨ol, hol, hcl, nl, hdl⟩ := hl
        obtain ⟨ocls, odict, odata, oslots⟩ := ol
        simp only at hcl hdl
        subst hcl; subst hdl
        have hol' : (s.heap.push { cls := .type "set", dict := none, data := .set #[] 0 (.fresh 0 0 (ledOf w)) }).get? l = some { cls := .type "list", dict := odict, data := .seq (vals.map fun p => Value.ref p.1).toArray nl, slots := oslots } := Heap.get?_push_of_some _ hol
        have hsls := F.sub_list_set
        have hslf := F.sub_list_frozenset
        have hne : (Value.type "list" == Value.type "dict") = false := by decide
        have hl1 : (s.heap.push { cls := .type "set", dict := none, data := .set #[] 0 (.fresh 0 0 (ledOf w)) }).IsList l (vals.map fun p => Value.ref p.1).toArray := ⟨_, hol', rfl, nl, rfl⟩
        unfold Builtin.«set.__init__» noKeywords Builtin.Frozenset.updateFrom
        generalize hPI : pyIter = PI
        wp_walk
        subst hPI
        refine wpAny_pyIter_list hl1 ?_
        refine wpAny_bind (wpAny_runValue ?_)
        have hlS : l < s.heap.objs.size := Heap.lt_size hol
        have hh3 : A.in1.in1.in1.handled = none := by simp [hh]
        have hneI : l ≠ (s.heap.push { cls := .type "set", dict := none, data := .set #[] 0 (.fresh 0 0 (ledOf w)) }).objs.size := by
          rw [Heap.size_push]; exact Nat.ne_of_lt (Nat.lt_succ_of_lt hlS)
        have hSf : s.heap.objs.size ∉ [(s.heap.push { cls := .type "set", dict := none, data := .set #[] 0 (.fresh 0 0 (ledOf w)) }).objs.size, l] := by
          rw [Heap.size_push]; simp only [List.mem_cons, List.mem_singleton, List.not_mem_nil, or_false, not_or]
          exact ⟨Nat.ne_of_lt (Nat.lt_succ_self _), Nat.ne_of_gt hlS⟩
        have hget : ((s.heap.push { cls := .type "set", dict := none, data := .set #[] 0 (.fresh 0 0 (ledOf w)) }).push { cls := .type "list_iterator", data := .fields #[.ref l, .int 0 0] }).get? s.heap.objs.size
            = some (setO #[] 0 (.fresh 0 0 (ledOf w))) := Heap.get?_push_of_some _ hS
        refine ask_loop (Walks.list hh3 _ l hneI (vals.map fun p => Value.ref p.1).toArray) (S := s.heap.objs.size) (led := ledOf w) hSf vals (by simp) (fun i v hv => ?_) (fun p hp => ?_) hb (by show A.units + 1 + 1 + 1 < cLine; omega) _ 0 _ rfl (Nat.zero_le _)
          ⟨⟨_, Heap.get?_push_size _ rfl, rfl, rfl⟩, (hl1.push _)⟩ ?hS0 (fun p hp => ?_) ?hR
        case hS0 =>
          exact ⟨#[], 0, .fresh 0 0 (ledOf w), [], [], hget, ⟨rfl, rfl, .nil, rfl, .inl rfl, by simp, by simp, Nat.zero_le _⟩, rfl, .nil, rfl, by simp, fun _ => Nat.zero_le _, by simp⟩
        case hR =>
          intro h' tk hk hS'
          show wpAny _ _ _ _ _ _
          refine wpAny_pure ?_
          show wpAny _ _ (ret Value.none) _ _ _
          refine wpAny_pure ⟨rfl, h', tk, rfl, hS', fun b o hb e => ?_⟩
          refine hk b o (Nat.ne_of_lt hb) ?_ (Heap.get?_push_of_some _ (Heap.get?_push_of_some _ e))
          rw [Heap.size_push]
          simp only [List.mem_singleton]
          exact Nat.ne_of_lt (Nat.lt_succ_of_lt hb)
        · rw [← Array.getElem?_toList] at hv
          simp only [List.getElem?_map, Option.map_eq_some_iff] at hv
          obtain ⟨p, hp, rfl⟩ := hv
          exact ⟨p, hp, rfl⟩
        · rw [Heap.size_push]
          simp only [List.mem_singleton]
          obtain ⟨_, _, _, e⟩ := hT p hp
          exact Nat.ne_of_lt (Nat.lt_succ_of_lt (Heap.lt_size e))
        · obtain ⟨t1, t2, t3, e⟩ := hT p hp
          exact ⟨t1, t2, t3, Heap.get?_push_of_some _ (Heap.get?_push_of_some _ e)⟩
      · cases r₂ with
        | error e => exact hr₂
        | ok fl₂ =>
          cases fl₂ with
          | ret r =>
            obtain ⟨rfl, h', tk, rfl, hS', hk'⟩ := hr₂
            repeat (any_goals (first | assumption | wp_step))
            exact h _ _ hS' hk'
          | _ => exact hr₂.elim
    | _ => exact hr.elim
end

end
section
open PySem.SetTable
theorem owner_set_iterator : true = true := rfl
theorem nolen_si : typeLookup (.type "set_iterator") "__len__" = pure none := by rw [typeLookup_type, builtinLookup_eq_fast]; kernel_rfl
theorem slot_si_next : Slot "set_iterator" "__next__" "set_iterator.__next__" :=
  .of (owner := "set_iterator") (n := "__next__") (by rw [typeLookup_type, builtinLookup_eq_fast]; kernel_rfl) (by decide +kernel) (by decide +kernel) (by decide +kernel)
    (by first | exact .inl (by decide +kernel) | exact .inr (by decide +kernel)) (by rw [isSubtype_type]; kernel_rfl)
theorem entry_si_next : entryFor table "set_iterator.__next__" = some Builtin.«set_iterator.__next__» := entryFor_of_tree (by kernel_rfl)
theorem entry_s_iter : entryFor table "set.__iter__" = some Builtin.«frozenset.__iter__» :=
  entryFor_alias (id' := "frozenset.__iter__") (by kernel_rfl) rfl (by decide +kernel) (by kernel_rfl)
theorem args_si_next (a : Value) : argsOk "set_iterator.__next__" ⟨[a], []⟩ := by unfold argsOk; kernel_rfl
theorem erase_perm {α : Type} : ∀ {l : List α} {i : Nat} (h : i < l.length), (l[i] :: l.eraseIdx i).Perm l
  | [], i, h => by simp at h
  | x :: l, 0, _ => List.Perm.refl _
  | x :: l, i + 1, h => by
    show (l[i]'(by simpa using h) :: x :: l.eraseIdx i).Perm (x :: l)
    exact (List.Perm.swap _ _ _).trans (List.Perm.cons _ (erase_perm (by simpa using h)))
section
variable {prog : Program} {w : World} {A : Around} {E : Value → Shared → Prop} {s : Shared} {S I : Addr} {es : Array (Int × Value)} {ep : Nat} {t : SetTable} {T : List Row}
theorem wpAny_choose {M : Model} {src : Source} {n : Nat} {Q : Nat → Shared → Prop} (hn : n ≠ 0) (h : ∀ i d, i < n → Q i { s with drawn := d }) : wpAny M A (choose src n) Q E s := fun Γ p hΓ => by
  unfold choose
  rw [Sem.wp_choose]
  refine ⟨hn, ?_⟩
  exact h _ _ (Nat.mod_lt _ (Nat.pos_of_ne_zero hn))
theorem draw_order {M : Model} {α : Type} : ∀ (n : Nat) (xs : List α) (s : Shared) (Q : List α → Shared → Prop), n = xs.length → (∀ ys d, ys.Perm xs → Q ys { s with drawn := d }) → wpAny M A (drawOrder n xs) Q E s
  | 0, xs, s, Q, hn, h => by
    have : xs = [] := List.length_eq_zero_iff.mp hn.symm
    subst this
    exact wpAny_pure (h [] s.drawn (List.Perm.refl _))
  | n + 1, [], s, Q, hn, h => by simp at hn
  | n + 1, x :: xs, s, Q, hn, h => by
    unfold drawOrder
    refine wpAny_bind (wpAny_choose (by simp) fun i d hi => ?_)
    rw [List.getElem?_eq_getElem hi]
    refine wpAny_bind (draw_order n _ _ _ (by rw [List.length_eraseIdx_of_lt hi]; rw [List.length_cons] at hn ⊢; omega) fun ys d hp => ?_)
    refine wpAny_pure (h _ d ?_)
    exact (List.Perm.cons _ hp).trans (erase_perm hi)
theorem pick_perm {α : Type} (next : Nat → Nat) (xs : Array α) : (pickOrder next xs).toList.Perm xs.toList := by
  have key : ∀ fuel k (left : List α) (out : Array α), left.length = fuel → (pickOrder.go next fuel k left out).toList.Perm (out.toList ++ left) := by
    intro fuel
    induction fuel with
    | zero =>
      intro k left out hl
      have : left = [] := List.length_eq_zero_iff.mp hl
      subst this
      simp [pickOrder.go]
    | succ fuel ih =>
      intro k left out hl
      have hlt : next k % left.length < left.length := Nat.mod_lt _ (by omega)
      unfold pickOrder.go
      rw [List.getElem?_eq_getElem hlt]
      refine (ih _ _ _ (by rw [List.length_eraseIdx_of_lt hlt]; omega)).trans ?_
      rw [Array.toList_push, List.append_assoc]
      exact List.Perm.append_left _ (erase_perm hlt)
  have := key xs.size 0 xs.toList #[] (by simp)
  rw [Array.toList_empty, List.nil_append] at this
  exact this
def bt (w : World) : Bool := w.params.followText "set-order"
noncomputable def outs (w : World) (S : Addr) (es : Array (Int × Value)) (ep : Nat) : List (Int × Value) := if bt w = true then (pickOrder (w.params.setOrder S ep) es).toList else es.toList
def slotAt (w : World) (t : SetTable) (i : Nat) : Nat := if bt w = true then 0 else if i = 0 then 0 else t.place.getD (i - 1) 0 + 1
theorem outs_perm : (outs w S es ep).Perm es.toList := by
  unfold outs
  split
  · exact pick_perm _ _
  · exact List.Perm.refl _
theorem below_slot (I : SetOK t es T) (hb : bt w = false) {i : Nat} (hi : i ≤ T.length) : below t.place (slotAt w t i) = i := by
  obtain ⟨h1, h2, h3⟩ := below_spec (j := slotAt w t i) I.rise
  rw [I.psize] at h1 h3
  have e : slotAt w t i = if i = 0 then 0 else t.place.getD (i - 1) 0 + 1 := by unfold slotAt; rw [hb]; rfl
  rw [e] at h1 h2 h3 ⊢
  rcases Nat.lt_trichotomy (below t.place (if i = 0 then 0 else t.place.getD (i - 1) 0 + 1)) i with h | h | h
  · rw [if_neg (by omega)] at h h3 ⊢
    have := h3 (i - 1) (by omega) (by omega)
    omega
  · exact h
  · by_cases h0 : i = 0
    · rw [if_pos h0] at h h2
      have := h2 i h; omega
    · rw [if_neg h0] at h h2 h1
      have := h2 i h
      have h4 := I.rise (i - 1) i (by omega) (by rw [I.psize]; omega)
      omega
theorem sset_next {i : Nat} {Q : Option (Value × Nat) → Shared → Prop} (ho : s.heap.get? S = some (setO es ep t)) (I : SetOK t es T) (hled : t.led = ledOf w) (hdr : bt w = true ∨ (t.plain = true ∨ es.size ≤ 1)) (hi : i ≤ T.length)
    (h1 : ∀ e, (outs w S es ep)[i]? = some e → Q (some (e.2, slotAt w t (i + 1))) s) (h2 : i = T.length → Q none s) : wpAny (model prog w) A (setNext S (slotAt w t i) i ep) Q E s := by
  have hlen : (outs w S es ep).length = T.length := by rw [outs_perm.length_eq, Array.length_toList, I.esize]
  unfold setNext
  refine wpAny_bind (wpAny_setState_of ho rfl I.fits_ ?_)
  dsimp only
  unfold setsByText
  refine wpAny_bind (wpAny_bind (wpAny_askSetting (wpAny_pure ?_)))
  show wpAny _ _ (if bt w = true then _ else _) _ _ _
  cases hb : bt w with
  | true =>
    rw [if_pos rfl, if_neg (by simp)]
    unfold setWalk setsByText
    refine wpAny_bind (wpAny_bind (wpAny_setState_of ho rfl I.fits_ ?_))
    dsimp only
    refine wpAny_bind (wpAny_bind (wpAny_askSetting (wpAny_pure ?_)))
    show wpAny _ _ (if bt w = true then _ else _) _ _ _
    rw [hb, if_pos rfl]
    refine wpAny_bind (wpAny_askSetting (wpAny_pure (wpAny_pure ?_)))
    have e1 : outs w S es ep = (pickOrder (w.params.setOrder S ep) es).toList := by unfold outs; rw [hb]; rfl
    have e2 : ∀ i, slotAt w t i = 0 := fun i => by unfold slotAt; rw [hb]; rfl
    rw [e1] at h1 hlen
    rw [e2] at h1
    rw [e2]
    show Q ((pickOrder (w.params.setOrder S ep) es)[i]?.map fun e => (e.2, 0)) s
    rw [← Array.getElem?_toList]
    cases hx : (pickOrder (w.params.setOrder S ep) es).toList[i]? with
    | some e => exact h1 e hx
    | none => exact h2 (by have := List.getElem?_eq_none_iff.mp hx; omega)
  | false =>
    rw [if_neg (by decide)]
    have hnd : ¬ ((!t.plain && decide (es.size > 1)) = true) := by
      rcases hdr with h | h | h
      · rw [hb] at h; cases h
      · rw [h]; simp
      · simp; intro _; omega
    rw [if_neg (by show ¬ ((!t.plain && decide (es.size > 1)) = true); exact hnd)]
    refine wpAny_bind ?_
    show wpAny _ _ (if (!t.led && !es.isEmpty) = true then _ else _) _ _ _
    have hl : t.led = true := by rw [hled]; unfold ledOf; unfold bt at hb; rw [hb]; rfl
    rw [hl, if_neg (by simp)]
    refine wpAny_pure ?_
    rw [below_slot I hb hi]
    refine wpAny_pure ?_
    have e1 : outs w S es ep = es.toList := by unfold outs; rw [hb]; rfl
    rw [e1] at h1 hlen
    rw [I.pget, ← Array.getElem?_toList]
    cases hx : es.toList[i]? with
    | some e =>
      have hlt : i < T.length := by rw [← hlen]; exact (List.getElem?_eq_some_iff.mp hx).1
      rw [List.getElem?_eq_getElem hlt]
      have e3 : slotAt w t (i + 1) = (T[i]).1 + 1 := by
        unfold slotAt
        rw [hb, if_neg (by decide), if_neg (by omega)]
        rw [Nat.add_sub_cancel, I.pgetD (List.getElem?_eq_getElem hlt)]
      have := h1 e hx
      rw [e3] at this
      exact this
    | none =>
      have : i = T.length := by have := List.getElem?_eq_none_iff.mp hx; omega
      subst this
      exact h2 rfl
end

end
section
open PySem.SetTable
section
variable {prog : Program} {w : World} {A : Around} {E : Value → Shared → Prop} {s : Shared} {S I : Addr} {es : Array (Int × Value)} {ep : Nat} {t : SetTable} {T : List Row}
abbrev itO (first : Value) (i : Nat) (S : Addr) (n ep : Nat) : Obj := { cls := .type "set_iterator", dict := none, data := .fields #[first, .int (i : Int) 0, .ref S, .int (n : Int) 0, .int (ep : Int) 0], slots := #[] }
theorem it_item {i : Nat} {e : Int × Value} {Q : Option Value → Shared → Prop} (hI : s.heap.get? I = some (itO (.int (slotAt w t i : Nat) 0) i S T.length ep)) (ho : s.heap.get? S = some (setO es ep t)) (Ok : SetOK t es T) (hled : t.led = ledOf w) (hdr : bt w = true ∨ (t.plain = true ∨ es.size ≤ 1))
    (he : (outs w S es ep)[i]? = some e)
    (h : ∀ h', h'.get? I = some (itO (.int (slotAt w t (i + 1) : Nat) 0) (i + 1) S T.length ep) → Heap.SameBut I s.heap h' → Q (some e.2) { s with heap := h' }) : wpAny (model prog w) A (pyNext (.ref I)) Q E s := by
  have hT : s.TypeIs (.ref I) "set_iterator" := ⟨_, hI, rfl⟩
  have hlen : (outs w S es ep).length = T.length := by rw [outs_perm.length_eq, Array.length_toList, Ok.esize]
  have hlt : i < T.length := by rw [← hlen]; exact (List.getElem?_eq_some_iff.mp he).1
  unfold pyNext
  refine wpAny_bind (wpAny_attempt (wpAny_callSpecial?_slot (name := Str.ofString "__next__") hT slot_si_next (wpAny_call_entry slot_si_next hT entry_si_next ?_ (args_si_next _))))
  unfold Builtin.«set_iterator.__next__»
  refine wpAny_bind (wpAny_pure ?_)
  dsimp only
  refine wpAny_bind (wpAny_fieldsOf hI rfl ?_)
  dsimp only
  refine wpAny_bind (wpAny_setEntries_of ho rfl Ok.fits_ ?_)
  rw [if_neg (by rw [Ok.esize]; simp)]
  refine wpAny_bind (sset_next ho Ok hled hdr (Nat.le_of_lt hlt) (fun e' he' => ?_) (fun h0 => by omega))
  obtain rfl : e = e' := Option.some.inj (he.symm.trans he')
  dsimp only
  refine wpAny_bind (PySem.wpAny_setField_rec hI (by simp) fun h₁ hI₁ hs₁ => ?_)
  refine wpAny_bind (PySem.wpAny_setField_rec (s := { s with heap := h₁ }) hI₁ (by simp) fun h₂ hI₂ hs₂ => ?_)
  exact wpAny_pure ⟨_, rfl, wpAny_pure (h h₂ (by simpa [rawInt, itO] using hI₂) (hs₁.trans hs₂))⟩
theorem isSub_stop : isSubtype (.type "StopIteration") (.type "StopIteration") = pure true := by rw [isSubtype_type]; kernel_rfl
theorem it_stop {B : Around} {Q : Option Value → Shared → Prop} {R : PySem.Fin → Shared → Prop} {vs : Array Value} {cls : Value} (hh : B.handled = none) (hI : s.heap.get? I = some { cls := cls, dict := none, data := .fields vs, slots := #[] }) (hv : 2 < vs.size)
    (h : ∀ h', Heap.ExtBut I s.heap h' → Q none { s with heap := h' }) :
    wpAny (model prog w) B (do setField (.ref I) 2 .none; raiseNew (← newExc (.type "StopIteration") []) : Sem PySem.Fin) R (fun e s' => wpAny (model prog w) A (do if ← isInstance e (.type "StopIteration") then pure none else throw e : Sem (Option Value)) Q E s') s := by
  refine wpAny_bind (PySem.wpAny_setField_rec hI hv fun h₁ hI₁ hs₁ => ?_)
  refine wpAny_bind ?_
  simp only [newExc, newTuple]
  refine wpAny_bind (wpAny_newObj_type ?_ (by size_fits))
  refine wpAny_bind (m := firstArgMember _ _) (wpAny_of_eq (a := Value.none) (by first | rfl | (simp only [firstArgMember]; rfl)) ?_)
  refine wpAny_newObj_type ?_ (by size_fits)
  simp only [raiseNew]
  refine wpAny_bind (wpAny_handled ?_)
  rw [hh]
  refine wpAny_bind (wpAny_pure (wpAny_throw ?_))
  refine wpAny_bind (wpAny_isInstance (T := "StopIteration") (b := true) ⟨_, Heap.get?_push_size _ rfl, rfl⟩ isSub_stop ?_)
  exact wpAny_pure (h _ (((hs₁.extBut).push _).push _))
theorem it_end {Q : Option Value → Shared → Prop} (hh : A.handled = none) (hI : s.heap.get? I = some (itO (.int (slotAt w t T.length : Nat) 0) T.length S T.length ep)) (ho : s.heap.get? S = some (setO es ep t)) (Ok : SetOK t es T) (hled : t.led = ledOf w) (hdr : bt w = true ∨ (t.plain = true ∨ es.size ≤ 1))
    (h : ∀ h', Heap.ExtBut I s.heap h' → Q none { s with heap := h' }) : wpAny (model prog w) A (pyNext (.ref I)) Q E s := by
  have hT : s.TypeIs (.ref I) "set_iterator" := ⟨_, hI, rfl⟩
  have hlen : (outs w S es ep).length = T.length := by rw [outs_perm.length_eq, Array.length_toList, Ok.esize]
  unfold pyNext
  refine wpAny_bind (wpAny_attempt (wpAny_callSpecial?_slot (name := Str.ofString "__next__") hT slot_si_next (wpAny_call_entry slot_si_next hT entry_si_next ?_ (args_si_next _))))
  unfold Builtin.«set_iterator.__next__»
  refine wpAny_bind (wpAny_pure ?_)
  dsimp only
  refine wpAny_bind (wpAny_fieldsOf hI rfl ?_)
  dsimp only
  refine wpAny_bind (wpAny_setEntries_of ho rfl Ok.fits_ ?_)
  rw [if_neg (by rw [Ok.esize]; simp)]
  refine wpAny_bind (sset_next ho Ok hled hdr (Nat.le_refl _) (fun e' he' => by have := (List.getElem?_eq_some_iff.mp he').1; simp at this; omega) (fun _ => ?_))
  exact it_stop hh hI (by simp) h
abbrev placesO (ps : List Nat) : Obj := tupO (ps.map fun (i : Nat) => rawInt i)
theorem dr_item {i p pt : Nat} {ps : List Nat} {e : Int × Value} {Q : Option Value → Shared → Prop} (hI : s.heap.get? I = some (itO (.ref pt) i S T.length ep)) (hP : s.heap.get? pt = some (placesO ps)) (ho : s.heap.get? S = some (setO es ep t)) (Ok : SetOK t es T)
    (hp : ps[i]? = some p) (he : es.toList[p]? = some e)
    (h : ∀ h', h'.get? I = some (itO (.ref pt) (i + 1) S T.length ep) → Heap.SameBut I s.heap h' → Q (some e.2) { s with heap := h' }) : wpAny (model prog w) A (pyNext (.ref I)) Q E s := by
  have hT : s.TypeIs (.ref I) "set_iterator" := ⟨_, hI, rfl⟩
  unfold pyNext
  refine wpAny_bind (wpAny_attempt (wpAny_callSpecial?_slot (name := Str.ofString "__next__") hT slot_si_next (wpAny_call_entry slot_si_next hT entry_si_next ?_ (args_si_next _))))
  unfold Builtin.«set_iterator.__next__»
  refine wpAny_bind (wpAny_pure ?_)
  dsimp only
  refine wpAny_bind (wpAny_fieldsOf hI rfl ?_)
  dsimp only
  refine wpAny_bind (wpAny_setEntries_of ho rfl Ok.fits_ ?_)
  rw [if_neg (by rw [Ok.esize]; simp)]
  refine wpAny_bind (wpAny_seqItems hP rfl ?_)
  dsimp only
  have e1 : ((List.map (fun (i : Nat) => rawInt i) ps).toArray[(i : Int).toNat]? : Option Value) = some (rawInt p) := by
    rw [Int.toNat_natCast, List.getElem?_toArray, List.getElem?_map, hp]; rfl
  rw [e1]
  dsimp only [rawInt]
  unfold setNextDrawn
  refine wpAny_bind (wpAny_bind (wpAny_setState_of ho rfl Ok.fits_ ?_))
  dsimp only
  rw [if_neg (by simp), Int.toNat_natCast, ← Array.getElem?_toList, he]
  dsimp only
  refine wpAny_pure ?_
  refine wpAny_bind (PySem.wpAny_setField_rec hI (by simp) fun h₁ hI₁ hs₁ => ?_)
  exact wpAny_pure ⟨_, rfl, wpAny_pure (h h₁ (by simpa [rawInt, itO] using hI₁) hs₁)⟩
theorem dr_end {pt : Nat} {ps : List Nat} {Q : Option Value → Shared → Prop} (hh : A.handled = none) (hI : s.heap.get? I = some (itO (.ref pt) T.length S T.length ep)) (hP : s.heap.get? pt = some (placesO ps)) (ho : s.heap.get? S = some (setO es ep t)) (Ok : SetOK t es T)
    (hp : ps.length = T.length)
    (h : ∀ h', Heap.ExtBut I s.heap h' → Q none { s with heap := h' }) : wpAny (model prog w) A (pyNext (.ref I)) Q E s := by
  have hT : s.TypeIs (.ref I) "set_iterator" := ⟨_, hI, rfl⟩
  unfold pyNext
  refine wpAny_bind (wpAny_attempt (wpAny_callSpecial?_slot (name := Str.ofString "__next__") hT slot_si_next (wpAny_call_entry slot_si_next hT entry_si_next ?_ (args_si_next _))))
  unfold Builtin.«set_iterator.__next__»
  refine wpAny_bind (wpAny_pure ?_)
  dsimp only
  refine wpAny_bind (wpAny_fieldsOf hI rfl ?_)
  dsimp only
  refine wpAny_bind (wpAny_setEntries_of ho rfl Ok.fits_ ?_)
  rw [if_neg (by rw [Ok.esize]; simp)]
  refine wpAny_bind (wpAny_seqItems hP rfl ?_)
  dsimp only
  have e1 : ((List.map (fun (i : Nat) => rawInt i) ps).toArray[((T.length : Nat) : Int).toNat]? : Option Value) = none := by
    rw [Int.toNat_natCast, List.getElem?_toArray, List.getElem?_eq_none (by simp [hp])]
  rw [e1]
  dsimp only
  refine wpAny_bind (PySem.wpAny_setField_rec hI (by simp) fun h₁ hI₁ hs₁ => ?_)
  exact it_stop (s := { s with heap := h₁ }) hh hI₁ (by simp) fun h' hx => h h' (hs₁.extBut.trans hx)
end

end
local macro_rules | `(tactic| walk_at "getMethod ref") => `(tactic| k_dflt (first | refine m_list (by assumption) (by dl_there) (by k_meth) (by k_made) ?_ | refine g_meth (by assumption) (by assumption) (by kd_in) (by with_reducible first | exact mo_288_accept _ | exact mo_328_accept _ | exact mo_108_visit_instance _ | exact mo_108_query_types _) (by rfl) ?_))
local macro_rules | `(tactic| walk_at "callWith ref") => `(tactic| k_dflt (first | refine cw_K (by kbo_some) ?_ | refine cw_K (by kernel_rfl) ?_ | refine cw_K0 (by assumption) (by assumption) (by kernel_rfl) ?_))
local macro_rules | `(tactic| walk_at "setAttr ref") => `(tactic| k_dflt (refine a_set (by assumption) (by assumption) (by with_reducible assumption) (by dl_mem) (by with_reducible assumption) (by rfl) (by exact Nat.le_of_ble_eq_true rfl) (by kernel_rfl) (by kernel_rfl) (by kernel_rfl) (by kernel_rfl) ?_; intro es' k' s' hk' F'))
local macro_rules | `(tactic| walk_at "exec Assign") => `(tactic| k_dflt (refine plainObj_wpAny_Assign_Attribute ?_))
section
section
variable {prog : Program} {w : World} {A : Around} {E : Value → Shared → Prop} {s₀ s : Shared} {Rv Z B : View} {V : Dyn} {L x dx C fI y : Addr} {m mg mb : Str → Option Value} {i : Nat × Nat} {n : Nat} {fs : List (Str × Value)} {idv : Value} {opn : Int} {t : Tok} {tg : Value} {ida : Addr}
theorem c_Constraint {nm up vs va : Value} {Q : Value → Shared → Prop} (F : St s₀ Rv Z B V L m s) (Cc : Cx w mg mb Z) (hA : Lv 3 A) (hy : SInst B y 288 [(Str.ofString "name", nm), (Str.ofString "id", .ref ida), (Str.ofString "upper_bound", up), (Str.ofString "values", vs), (Str.ofString "variance", va)])
    (h : ∀ x dx es k s' V', B x = none → (B.put x (instObj 45 dx)) dx = none → Only [8] V V' → Keyed es [(Str.ofString "type_var", .ref ida), (Str.ofString "op", .int opn t), (Str.ofString "target", tg), (Str.ofString "origin_type_var", .ref y)] →
      St s₀ Rv Z ((B.put x (instObj 45 dx)).put dx (dictOf es k)) V' L m s' → Q (.ref x) s') : wpAny (model prog w) A (call (.ref 45) [.ref y, .int opn t, tg]) Q E s := by
  refine call_cls (fI := 35) (8, 1) F Cc (by kernel_rfl) (by kernel_rfl) (by kernel_rfl) fun x dx s₁ hbx hbd F₁ => ?_
  have hy₁ : SInst (B.put x (instObj 45 dx)) y 288 [(Str.ofString "name", nm), (Str.ofString "id", .ref ida), (Str.ofString "upper_bound", up), (Str.ofString "values", vs), (Str.ofString "variance", va)] := hy.le (vput_le hbx)
  have hxx : (B.put x (instObj 45 dx)) x = some (instObj 45 dx) := vput_self _ _ _
  have hk0 : Keyed [] [] := .nil
  refine call_fnA (n := 1) (binds := [("self", .ref x), ("type_var", .ref y), ("op", .int opn t), ("target", tg)]) F₁ Cc (Lv.make (n := 1) hA.mono) rfl (by kernel_rfl) (BindsTo.of_eq rfl) (locs rfl) (fun R' L' s' F' Cc' back => ?_)
  clear F₁
  repeat walk1
  rename_i es k s₂ hk F₂
  have F₃ := back _ _ _ _ F₂
  have F₄ := F₃.settle (put_self _ _ _)
  refine h x dx es k s₂ _ hbx (F₃.v _ _ _ (put_self _ _ _)).2.2 (fun j hj => ?_) hk F₄
  have hj' : j ≠ (8, 1) := fun e => hj (by rw [e]; simp)
  unfold Dyn.del
  rw [if_neg hj', put_put, put_put, put_put, put_put, put_other _ _ hj']
end

end
section
section
variable {prog : Program} {w : World} {A : Around} {E : Value → Shared → Prop} {s₀ s : Shared} {Rv Z B : View} {V : Dyn} {L x dx C fI y : Addr} {m mg mb : Str → Option Value} {i : Nat × Nat} {n k : Nat} {fs : List (Str × Value)} {t : Tok}
theorem c_Id {Q : Value → Shared → Prop} (F : St s₀ Rv Z B V L m s) (Cc : Cx w mg mb Z) (hA : Lv 3 A)
    (h : ∀ x dx es k' s' V', B x = none → (B.put x (instObj 245 dx)) dx = none → Only [8] V V' → Keyed es [(Str.ofString "raw_id", .int ((k : Int) + 1) t), (Str.ofString "meta_level", .int 0 460)] →
      St s₀ Rv Z ((B.put x (instObj 245 dx)).put dx (dictOf es k')) V' L m s' → Q (.ref x) s') : wpAny (model prog w) A (call (.ref 245) [.int ((k : Int) + 1) t]) Q E s := by
  refine call_cls (fI := 214) (8, 1) F Cc (by kernel_rfl) (by kernel_rfl) (by kernel_rfl) fun x dx s₁ hbx hbd F₁ => ?_
  have hxx : (B.put x (instObj 245 dx)) x = some (instObj 245 dx) := vput_self _ _ _
  have hk0 : Keyed [] [] := .nil
  refine call_fnA (n := 1) (binds := [("self", .ref x), ("raw_id", .int ((k : Int) + 1) t), ("meta_level", .int 0 460)]) F₁ Cc (Lv.make (n := 1) hA.mono) rfl (by kernel_rfl) (binds_K (Cc.kin F₁.toFz) rfl rfl rfl rfl rfl) (locs rfl) (fun R' L' s' F' Cc' back => ?_)
  clear F₁
  repeat walk1
  rename_i es k s₂ hk F₂
  have F₃ := back _ _ _ _ F₂
  have F₄ := F₃.settle (put_self _ _ _)
  refine h x dx es k s₂ _ hbx (F₃.v _ _ _ (put_self _ _ _)).2.2 (fun j hj => ?_) hk F₄
  have hj' : j ≠ (8, 1) := fun e => hj (by rw [e]; simp)
  unfold Dyn.del
  rw [if_neg hj', put_put, put_put, put_other _ _ hj']
end

end
section
section
variable {prog : Program} {w : World} {A : Around} {E : Value → Shared → Prop} {s₀ s : Shared} {Rv Z B : View} {V : Dyn} {L x dx C fI y : Addr} {m mg mb : Str → Option Value} {i : Nat × Nat} {n k : Nat} {fs : List (Str × Value)} {nm own vs up : Value}
theorem c_Var {Q : Value → Shared → Prop} (F : St s₀ Rv Z B V L m s) (Cc : Cx w mg mb Z) (hA : Lv 3 A)
    (h : ∀ x dx es k' s' V', B x = none → (B.put x (instObj 288 dx)) dx = none → Only [8] V V' → Keyed es [(Str.ofString "name", nm), (Str.ofString "id", own), (Str.ofString "upper_bound", up), (Str.ofString "values", vs), (Str.ofString "variance", .int 0 332)] →
      St s₀ Rv Z ((B.put x (instObj 288 dx)).put dx (dictOf es k')) V' L m s' → Q (.ref x) s') : wpAny (model prog w) A (call (.ref 288) [nm, own, vs, up]) Q E s := by
  refine call_cls (fI := 264) (8, 1) F Cc (by kernel_rfl) (by kernel_rfl) (by kernel_rfl) fun x dx s₁ hbx hbd F₁ => ?_
  have hxx : (B.put x (instObj 288 dx)) x = some (instObj 288 dx) := vput_self _ _ _
  have hk0 : Keyed [] [] := .nil
  refine call_fnA (n := 1) (binds := [("self", .ref x), ("name", nm), ("own", own), ("values", vs), ("upper_bound", up), ("variance", .int 0 332)]) F₁ Cc (Lv.make (n := 1) hA.mono) rfl (by kernel_rfl) (binds_K (Cc.kin F₁.toFz) rfl rfl rfl rfl rfl) (locs rfl) (fun R' L' s' F' Cc' back => ?_)
  clear F₁
  repeat walk1
  rename_i es k s₂ hk F₂
  have F₃ := back _ _ _ _ F₂
  have F₄ := F₃.settle (put_self _ _ _)
  refine h x dx es k s₂ _ hbx (F₃.v _ _ _ (put_self _ _ _)).2.2 (fun j hj => ?_) hk F₄
  have hj' : j ≠ (8, 1) := fun e => hj (by rw [e]; simp)
  unfold Dyn.del
  rw [if_neg hj', put_put, put_put, put_put, put_put, put_put, put_other _ _ hj']
end

end
section
section
variable {prog : Program} {w : World} {A : Around} {E : Value → Shared → Prop} {s₀ s : Shared} {Rv Z B : View} {V : Dyn} {L x dx C fI y l : Addr} {m mg mb : Str → Option Value} {i : Nat × Nat} {n k : Nat} {fs : List (Str × Value)} {ty : Value}
theorem l_tuple {vs : List Value} {Q : Value → Shared → Prop} (F : St s₀ Rv Z B V L m s) (hv : At B V l (listO vs k)) (hsz : vs.length ≤ sizeLine) (h : ∀ t s', B t = none → St s₀ Rv Z (B.put t (tupO vs)) V L m s' → Q (.ref t) s') :
    wpAny (model prog w) A (call (.type "tuple") [.ref l]) Q E s :=
  call_tuple_list (items := vs.toArray) ⟨_, hv.get F.toFz, rfl, k, rfl⟩ (fun h' hk => by
    have F₁ : St s₀ Rv Z B V L m { s with heap := h', toks := s.toks } := F.keep hk
    exact h _ _ (F₁.fresh (get_fresh h')).2.1 (F₁.newB (get_fresh h') (fun _ _ e => Heap.get?_push_of_some _ e) (Heap.get?_push_size _ rfl))) (by simpa using hsz)
theorem c_Inst {Q : Value → Shared → Prop} (F : St s₀ Rv Z B V L m s) (Cc : Cx w mg mb Z) (hA : Lv 3 A) (hl : ∀ p, At B (V.put (8, 1) p) l (listO [] k))
    (h : ∀ x dx e es k' s' V', B x = none → (B.put x (instObj 328 dx)) e = none → ((B.put x (instObj 328 dx)).put e (tupO [])) dx = none → Only [8] V V' → Keyed es [(Str.ofString "type", ty), (Str.ofString "args", .ref e)] →
      St s₀ Rv Z (((B.put x (instObj 328 dx)).put e (tupO [])).put dx (dictOf es k')) V' L m s' → Q (.ref x) s') : wpAny (model prog w) A (call (.ref 328) [ty, .ref l]) Q E s := by
  refine call_cls (fI := 304) (8, 1) F Cc (by kernel_rfl) (by kernel_rfl) (by kernel_rfl) fun x dx s₁ hbx hbd F₁ => ?_
  have hxx : (B.put x (instObj 328 dx)) x = some (instObj 328 dx) := vput_self _ _ _
  have hk0 : Keyed [] [] := .nil
  refine call_fnA (n := 1) (binds := [("self", .ref x), ("typ", ty), ("args", .ref l)]) F₁ Cc (Lv.make (n := 1) hA.mono) rfl (by kernel_rfl) (BindsTo.of_eq rfl) (locs rfl) (fun R' L' s' F' Cc' back => ?_)
  clear F₁
  repeat walk1
  rename_i es₁ k₁ s₂ hk₁ F₂
  have hl₂ : At (B.put x (instObj 328 dx)) ((V.put (8, 1) (dx, dictOf [] 0)).put (8, 1) (dx, dictOf es₁ k₁)) l (listO [] k) := by
    rw [put_put]; exact (hl _).imp (fun e => vput_le hbx _ _ e) id
  refine l_tuple F₂ hl₂ (by simp) fun e s₃ hbe F₃ => ?_
  have hxx₃ : ((B.put x (instObj 328 dx)).put e (tupO [])) x = some (instObj 328 dx) := vput_le hbe _ _ hxx
  clear F₂ F'
  repeat walk1
  rename_i es k' s₄ hk F₄
  have F₅ := back _ _ _ _ F₄
  have F₆ := F₅.settle (put_self _ _ _)
  refine h x dx e es k' s₄ _ hbx hbe (F₅.v _ _ _ (put_self _ _ _)).2.2 (fun j hj => ?_) hk F₆
  have hj' : j ≠ (8, 1) := fun e => hj (by rw [e]; simp)
  unfold Dyn.del
  rw [if_neg hj', put_put, put_put, put_other _ _ hj']
end

end
section
section
variable {prog : Program} {w : World} {A : Around} {E : Value → Shared → Prop} {s₀ s : Shared} {Rv Z B : View} {V : Dyn} {L x dx C y l : Addr} {m mg mb : Str → Option Value} {i : Nat × Nat} {n k j : Nat} {D : Dom}
theorem call_cls0 {Q : Value → Shared → Prop} (F : St s₀ Rv Z B V L m s) (Cc : Cx w mg mb Z) (hm : makesIn (hd.heap_39 w.params) C = true) (hi : findIn (hd.heap_39 w.params) (.ref C) "__init__" = some (some (.builtin "object.__init__")))
    (h : ∀ x B' s', B.le B' → SInst B' x C [] → St s₀ Rv Z B' V L m s' → Q (.ref x) s') : wpAny (model prog w) A (call (.ref C) []) Q E s := by
  refine wpAny_call ?_
  have X := Cc.kin F.toFz
  have n1 := get_fresh s.heap
  have F₁ : St s₀ Rv Z (B.put s.heap.objs.size emptyDict) V L m { s with heap := s.heap.push emptyDict, toks := s.toks } := F.newB n1 (fun _ _ e => Heap.get?_push_of_some _ e) (Heap.get?_push_size _ rfl)
  have n2 := get_fresh (s.heap.push emptyDict)
  rw [Heap.size_push] at n2
  have F₂ : St s₀ Rv Z ((B.put s.heap.objs.size emptyDict).put (s.heap.objs.size + 1) (instObj C s.heap.objs.size)) V L m { s with heap := (s.heap.push emptyDict).push (instObj C s.heap.objs.size), toks := s.toks } :=
    F₁.newB n2 (fun _ _ e => Heap.get?_push_of_some _ e) (by rw [← Heap.size_push]; exact Heap.get?_push_size _ rfl)
  have hb2 : (B.put s.heap.objs.size emptyDict) (s.heap.objs.size + 1) = none := (F₁.fresh n2).2.1
  have hI : SInst ((B.put s.heap.objs.size emptyDict).put (s.heap.objs.size + 1) (instObj C s.heap.objs.size)) (s.heap.objs.size + 1) C [] :=
    ⟨s.heap.objs.size, [], 0, .ofB (vput_self _ _ _), .ofB (vput_le hb2 _ _ (vput_self _ _ _)), .nil⟩
  have z := h _ _ _ ((vput_le (F.fresh n1).2.1).trans (vput_le hb2)) hI F₂
  have hg := F₂.b _ _ (vput_self _ _ _)
  obtain ⟨hh, g, d, t, os⟩ := s
  have Y := makes_of (M := model prog w) X hm
  refine make_core Y (looks_findIn X hi) (fun self => Looks.of_pure (oi_bind self)) (.inr ⟨rfl, rfl⟩) ?_
  have t1 : Looks (model prog w) ((hh.push emptyDict).push (instObj C hh.objs.size)) (typeOf (.ref (hh.objs.size + 1))) (.ref C) := (Looks.ld hg.1).andThen .now
  have t2 : Looks (model prog w) ((hh.push emptyDict).push (instObj C hh.objs.size)) (isInstance (.ref (hh.objs.size + 1)) (.type "object")) true := t1.andThen (Y.top.keeps fun b o e => Heap.get?_push_of_some _ (Heap.get?_push_of_some _ e))
  refine codeAny_call_builtin oi_plain entry_oi (@check_slot (model prog w) _ _ _ "object.__init__" "object" "__init__" (.ref (hh.objs.size + 1)) [] [] _ oi_kind oi_split t2 (oi_args (.ref (hh.objs.size + 1))) ?_)
  rw [oi_run]
  exact wpAny_pure (And.intro rfl z)
/-- query_types of no items -/
theorem c_query {Q : Value → Shared → Prop} (i : Nat × Nat) (F : St s₀ Rv Z B V L m s) (Cc : Cx w mg mb Z) (hA : Lv 2 A) (he : B y = some (tupO []))
    (h : ∀ l s', B l = none → St s₀ Rv Z B (V.put i (l, listO [] 0)) L m s' → Q (.ref l) s') : wpAny (model prog w) A (call (.ref 63) [.ref x, .ref y]) Q E s := by
  refine call_fn (binds := [("self", .ref x), ("items", .ref y)]) F Cc hA rfl (by kernel_rfl) (BindsTo.of_eq rfl) (locs rfl) (fun R' L' s' F' Cc' back => ?_)
  clear F
  repeat walk1
  refine n_list i F' fun b s₁ hb F₁ => ?_
  clear F'
  repeat walk1
  refine wpAny_For ?_
  repeat walk1
  rename_i s₂ F₂
  refine for_src (fun j B' V' m' => B' = B ∧ V' = V.put i (b, listO [] 0) ∧ m' (Str.ofString "out") = some (.ref b)) F₂ (Src.tuple hA.h he) ⟨rfl, rfl, by dl_step⟩ ?_ ?_ ?_
  · rintro j B' V' m' ⟨rfl, _⟩ _
    exact he
  · rintro j v R₁ B' V' m' s' hj
    exact absurd hj (Nat.not_lt_zero _)
  · rintro B' V' m' s' hl ⟨rfl, rfl, hm⟩ F₃
    clear F₂ F₁
    repeat walk1
    exact h b _ hb (back _ _ _ _ F₃)
end

end
section
section
variable {prog : Program} {w : World} {A : Around} {E : Value → Shared → Prop} {s₀ s : Shared} {Rv Z B : View} {V : Dyn} {L x dx C y l : Addr} {m mg mb : Str → Option Value} {i : Nat × Nat} {n k j : Nat} {D : Dom}
theorem c_visit {Q : Value → Shared → Prop} (i : Nat × Nat) (F : St s₀ Rv Z B V L m s) (Cc : Cx w mg mb Z) (hA : Lv 4 A) (hD : DomOK D B) (hj : j < 3) (hx : SInst B x 108 [])
    (h : ∀ l s', B l = none → St s₀ Rv Z B (V.put i (l, listO [] 0)) L m s' → Q (.ref l) s') : wpAny (model prog w) A (call (.ref 98) [.ref x, .ref (D.cls j)]) Q E s := by
  have ic := hD.cls j hj
  refine call_fn (binds := [("self", .ref x), ("t", .ref (D.cls j))]) F Cc hA rfl (by kernel_rfl) (BindsTo.of_eq rfl) (locs rfl) (fun R' L' s' F' Cc' back => ?_)
  clear F
  repeat walk1
  refine c_query i (by assumption) Cc' (by kd_p) (hD.emp _ hj) fun b s₁ hb F₁ => ?_
  repeat walk1
  exact h b _ hb (back _ _ _ _ F₁)

theorem c_accept {Q : Value → Shared → Prop} (i : Nat × Nat) (F : St s₀ Rv Z B V L m s) (Cc : Cx w mg mb Z) (hA : Lv 6 A) (hD : DomOK D B) (hj : j < 3) (hx : SInst B x 108 [])
    (h : ∀ l s', B l = none → St s₀ Rv Z B (V.put i (l, listO [] 0)) L m s' → Q (.ref l) s') : wpAny (model prog w) A (call (.ref 311) [.ref (D.cls j), .ref x]) Q E s := by
  refine call_fn (binds := [("self", .ref (D.cls j)), ("visitor", .ref x)]) F Cc hA rfl (by kernel_rfl) (BindsTo.of_eq rfl) (locs rfl) (fun R' L' s' F' Cc' back => ?_)
  clear F
  repeat walk1
  refine c_visit i (by assumption) Cc' (by kd_p) hD hj hx fun b s₁ hb F₁ => ?_
  repeat walk1
  exact h b _ hb (back _ _ _ _ F₁)
theorem c_gatv {Q : Value → Shared → Prop} (i : Nat × Nat) (F : St s₀ Rv Z B V L m s) (Cc : Cx w mg mb Z) (hA : Lv 8 A) (hD : DomOK D B) (hj : j < 3)
    (h : ∀ l B' s', B.le B' → B' l = none → St s₀ Rv Z B' (V.put i (l, listO [] 0)) L m s' → Q (.ref l) s') : wpAny (model prog w) A (call (.ref 119) [.ref (D.cls j)]) Q E s := by
  have ic := hD.cls j hj
  refine call_fn (binds := [("tp", .ref (D.cls j))]) F Cc hA rfl (by kernel_rfl) (BindsTo.of_eq rfl) (locs rfl) (fun R' L' s' F' Cc' back => ?_)
  clear F
  repeat walk1
  refine call_cls0 (by assumption) Cc' (by kernel_rfl) (by kernel_rfl) fun x B₁ s₁ hl hx F₁ => ?_
  repeat walk1
  refine c_accept i F₁ Cc' (by kd_p) (hD.le hl) hj hx fun b s₂ hb F₂ => ?_
  repeat walk1
  exact h b _ _ hl hb (back _ _ _ _ F₂)
end

end
section
section
variable {prog : Program} {w : World} {A : Around} {E : Value → Shared → Prop} {s₀ s : Shared} {Rv Z B : View} {V : Dyn} {L x dx C y l tl : Addr} {m mg mb : Str → Option Value} {i : Nat × Nat} {n k j kt : Nat} {D : Dom}
theorem c_getvars {Q : Value → Shared → Prop} (F : St s₀ Rv Z B V L m s) (Cc : Cx w mg mb Z) (hA : Lv 10 A) (hD : DomOK D B) (hj : j < 3) (ht : B tl = some (listO (idsV D) kt))
    (h : ∀ l B' V' s' k', B.le B' → Only [7] V V' → V' (7, 0) = some (l, listO [] k') → St s₀ Rv Z B' V' L m s' → Q (.ref l) s') : wpAny (model prog w) A (call (.ref 423) [.ref (D.cls j), .ref tl]) Q E s := by
  refine call_fnC (binds := [("target", .ref (D.cls j)), ("tvars", .ref tl)]) 7 F Cc hA rfl (by kernel_rfl) (BindsTo.of_eq rfl) ?_ (by decide) (fun R' L' s' rows hr F' Cc' back look => ?_)
  · intro n x hx
    simp only [List.mem_cons, List.not_mem_nil, or_false] at hx
    rcases hx with rfl | rfl
    · exact .inl rfl
    · exact .inr ⟨rfl, rfl⟩
  obtain ⟨hr0, hr⟩ := hr
  obtain ⟨o0, r0, hd0⟩ := hr 0 _ _ rfl
  change St _ _ _ _ _ _ (fun y => if y = Str.ofString "target" then some (Value.ref (D.cls j)) else none) _ at F'
  clear F
  have on1 : Only [7] V (rowsV V 7 rows) := fun i hi => by
    have : i.1 ≠ 7 := by simpa using hi
    unfold rowsV; rw [if_neg this]
  generalize rowsV V 7 rows = V₁ at F' on1
  repeat walk1
  refine c_gatv (7, 5) (by assumption) Cc' (by kd_p) hD hj fun b B₁ s₁ hl hb F₁ => ?_
  refine lc_none (i := (7, 6)) (Out := fun _ _ zs => zs = []) F₁ (Src.list (by exact hA.h) (At.ofV (put_self _ _ _))) (loop1 (fun _ => True) (Nat.zero_le _) (Cc'.le F₁.z) (fun B' Dd ys nn hl => At.ofV ((put_other _ _ (by decide)).trans (put_self _ _ _))) (fun _ _ _ _ _ h => h) trivial ?_) ?_
  · intro C Dd j v ys nn R₁ B₁ m₁ s₃ hj
    exact absurd hj (Nat.not_lt_zero _)
  intro g B₃ zs kg s₃ hl₃ hcat F₃
  have hz : zs = [] := by cases hcat; rfl
  subst hz
  clear F₁ F'
  repeat walk1
  refine c_dedup (α := Nat) (n := 1) (l := []) (clsV D) (7, 0) F₃ Cc' (by kd_p) (At.ofV (put_self _ _ _)) (fun p => At.ofV ((put_other _ _ (by decide)).trans (put_self _ _ _))) (fun y hy => absurd hy (by simp)) (by simp) fun b₂ k₃ s₄ hb₂ F₄ => ?_
  repeat walk1
  exact h b₂ _ _ _ k₃ (hl.trans hl₃) (((on1.put (by decide) _).put (by decide) _).put (by decide) _) (put_self _ _ _) (back _ _ _ _ F₄)
end

end
section
section
variable {prog : Program} {w : World} {A : Around} {E : Value → Shared → Prop} {s₀ s : Shared} {Rv Z B : View} {V : Dyn} {L x dx C y l tl g dl du : Addr} {m mg mb : Str → Option Value} {i : Nat × Nat} {n k j kt kg : Nat} {D : Dom} {G : List (Addr × Pr)} {lo up : Nat → List Nat}
theorem n_dict {env : Env} {pos : Pos} {Q : Value → Shared → Prop} (i : Nat × Nat) (f : Nat → Addr) (F : St s₀ Rv Z B V L m s) (h : ∀ d s', B d = none → (∀ a o, s.heap.get? a = some o → a < d) → St s₀ Rv Z B (V.put i (d, dictD f [] 0)) L m s' → Q (.ref d) s') :
    wpAny (model prog w) A (eval (.Dict [] [] pos) env) Q E s :=
  wpAny_Dict_empty (h _ _ (F.fresh (get_fresh _)).2.1 (fun _ _ e => Heap.lt_size e) (F.newV (get_fresh _) (fun _ _ e => Heap.get?_push_of_some _ e) (Heap.get?_push_size _ rfl)))
/-- what compute_dependencies lists for k -/
def depOf (n : Nat) (P : List Pr) (k : Nat) : List Nat := (List.range n).filter fun j => j != k && (mem P k j || mem P j k)
structure DepAt (D : Dom) (V : Dyn) (d : Addr) (P : List Pr) (j : Nat) : Prop where
  ex : ∃ (as : List Addr) (ep : Nat), as.length = j ∧ V (10, 100) = some (d, dictD D.id (as.map .ref) ep) ∧ ∀ i a, as[i]? = some a → ∃ k, V (10, i) = some (a, listO ((dedup (depOf D.n P i)).map (idV D)) k)
theorem dep_snoc (p : Nat → Bool) (q : Nat) : (List.range (q + 1)).filter p = (List.range q).filter p ++ (if p q = true then [q] else []) := by
  rw [List.range_succ, List.filter_append]
  congr 1
  by_cases h : p q = true
  · rw [if_pos h, List.filter_cons_of_pos h]; rfl
  · rw [if_neg h, List.filter_cons_of_neg h]; rfl
set_option maxHeartbeats 2000000 in
theorem c_deps {Q : Value → Shared → Prop} (F : St s₀ Rv Z B V L m s) (Cc : Cx w mg mb Z) (hA : Lv 12 A) (hD : DomOK D B) (ht : B tl = some (listO (idsV D) kt)) (hg : V (1, 0) = some (g, listO (G.map aval) kg)) (hG : GIs D B G) (hlo : RowsAt D V 3 dl lo) (hup : RowsAt D V 2 du up)
    (h : ∀ d B' V' s', (d == sysModules) = false → B.le B' → Only [6, 7, 10] V V' → DepAt D V' d (G.map (·.2)) D.n → St s₀ Rv Z B' V' L m s' → Q (.ref d) s') : wpAny (model prog w) A (call (.ref 418) [.ref tl, .ref g, .ref dl, .ref du]) Q E s := by
  refine call_fn (binds := [("tvars", .ref tl), ("graph", .ref g), ("lowers", .ref dl), ("uppers", .ref du)]) F Cc hA rfl (by kernel_rfl) (BindsTo.of_eq rfl) (locs rfl) (fun R' L' s' F' Cc' back => ?_)
  clear F
  walk1
  walk1
  refine n_dict (10, 100) D.id F' fun d s₁ hd hlt F₁ => ?_
  have hns : (d == sysModules) = false := by
    obtain ⟨o, es, ep, e, _⟩ := Cc'.g.get F'.toFz
    have h3 : mainGlobals < d := hlt _ _ e
    cases q : d == sysModules with
    | false => rfl
    | true => rw [eq_of_beq q] at h3; exact absurd h3 (by decide)
  clear hlt
  clear F'
  repeat walk1
  refine wpAny_For ?_
  repeat walk1
  rename_i s₂ F₂
  clear F₁
  refine for_ids (fun j B' V' m' => DepAt D V' d (G.map (·.2)) j ∧ Only [6, 7, 10] V V' ∧ m' (Str.ofString "tvars") = some (.ref tl) ∧ m' (Str.ofString "graph") = some (.ref g) ∧ m' (Str.ofString "lowers") = some (.ref dl) ∧ m' (Str.ofString "uppers") = some (.ref du) ∧ m' (Str.ofString "res") = some (.ref d))
    F₂ hA.h ht ⟨⟨[], 0, rfl, put_self _ _ _, fun i a h => by simp at h⟩, (Only.refl _ _).put (by decide) _, by dl_step, by dl_step, by dl_step, by dl_step, by dl_step⟩ ?_ ?_
  · rintro j R₁ B₁ V₁ m₁ s₃ hj hl₁ ⟨hdep, on₁, hm1, hm2, hm3, hm4, hm5⟩ F₃
    have hD₁ := hD.le hl₁
    have hlo₁ := hlo.only on₁ (by decide)
    have hup₁ := hup.only on₁ (by decide)
    have hg₁ := (on₁ _ (by decide)).trans hg
    have hG₁ := hG.le hl₁
    have ht₁ := hl₁ _ _ ht
    clear F₂
    repeat walk1
    rename_i s₄ F₄
    refine n_list (6, 2) F₄ fun dp s₅ hdp F₅ => ?_
    clear F₄
    repeat walk1
    refine wpAny_For ?_
    repeat walk1
    have on6 : Only [6] V₁ (V₁.put (6, 2) (dp, listO [] 0)) := (Only.refl _ _).put (by decide) _
    refine sub_row (by assumption) Cc' (by kd_p) hD₁ (hlo₁.only on6 (by decide)) hj fun a₁ k₁ s₆ ha₁ F₆ => ?_
    have hl3 := hlo₁.len hj
    refine for_src (fun i B' V' m' => B₁.le B' ∧ (∃ kd, V' (6, 2) = some (dp, listO [] kd)) ∧ Only [6, 7] V₁ V' ∧ m' (Str.ofString "tv") = some (.ref (D.id j)) ∧ m' (Str.ofString "deps") = some (.ref dp) ∧ m' (Str.ofString "tvars") = some (.ref tl) ∧ m' (Str.ofString "graph") = some (.ref g) ∧ m' (Str.ofString "lowers") = some (.ref dl) ∧ m' (Str.ofString "uppers") = some (.ref du) ∧ m' (Str.ofString "res") = some (.ref d))
      F₆ (Src.list hA.h (At.ofV ha₁)) ⟨View.le.refl _, ⟨0, put_self _ _ _⟩, on6.mono (by decide), by dl_step, by dl_step, by dl_step, by dl_step, by dl_step, by dl_step, by dl_step⟩ ?_ ?_ ?_
    · rintro i B' V' m' ⟨_, _, on', _⟩ _
      have hne : (3, j).1 ∉ [6, 7] := by simp
      exact At.ofV ((on' _ hne).trans ((on6 _ (by simp)).symm.trans ha₁))
    · rintro i v R₂ B₂ V₂ m₂ s₇ hi hP hl₂ ⟨_, ⟨kd, hdv⟩, on₂, hn1, hn2, hm1, hm2, hm3, hm4, hm5⟩ F₇
      obtain ⟨lt, hlt, rfl⟩ : ∃ lt, (lo j)[i]? = some lt ∧ clsV D lt = v := by simpa using hP
      have hlt3 := hlo₁.lt j hj lt (List.mem_of_getElem? hlt)
      have hclsV : clsV D lt = .ref (D.cls lt) := rfl
      rw [hclsV]
      clear F₆ F₅
      repeat walk1
      rename_i s₈ F₈
      refine wpAny_loadName_local rfl rfl F₈.ns (by dl_step) ?_
      repeat walk1
      refine c_getvars F₈ Cc' (by kd_p) (hD₁.le hl₂) hlt3 (hl₂ _ _ ht₁) fun l B₃ V₃ s₉ k' hl₃ on₃ hl7 F₉ => ?_
      have hdv₃ : V₃ (6, 2) = some (dp, listO [] kd) := (on₃ _ (by decide)).trans hdv
      refine l_iadd F₉ hdv₃ (At.ofV hl7) (by simp) fun k'' s₁₀ F₁₀ => ?_
      repeat walk1
      rename_i s₁₁ F₁₁
      refine BodyEnd.next ⟨_, _, _, hl₃, ⟨hl₂.trans hl₃, ⟨k'', put_self _ _ _⟩, (on₂.trans (on₃.mono (by decide))).put (by decide) _, by dl_step, by dl_step, by dl_step, by dl_step, by dl_step, by dl_step, by dl_step⟩, F₁₁⟩
    rintro B₂ V₂ m₂ s₇ hl₂ ⟨_, ⟨kd₀, hdv₀⟩, on₂, hn1, hn2, hm1, hm2, hm3, hm4, hm5⟩ F₇
    have hup₂ := hup₁.only on₂ (by decide)
    have hD₂ := hD₁.le hl₂
    have hl3' := hup₂.len hj
    clear F₆ F₅
    repeat walk1
    refine wpAny_For ?_
    repeat walk1
    refine sub_row (by assumption) Cc' (by kd_p) hD₂ hup₂ hj fun a₂ k₂ s₈ ha₂ F₈ => ?_
    refine for_src (fun i B' V' m' => B₂.le B' ∧ (∃ kd, V' (6, 2) = some (dp, listO [] kd)) ∧ Only [6, 7] V₂ V' ∧ m' (Str.ofString "tv") = some (.ref (D.id j)) ∧ m' (Str.ofString "deps") = some (.ref dp) ∧ m' (Str.ofString "tvars") = some (.ref tl) ∧ m' (Str.ofString "graph") = some (.ref g) ∧ m' (Str.ofString "lowers") = some (.ref dl) ∧ m' (Str.ofString "uppers") = some (.ref du) ∧ m' (Str.ofString "res") = some (.ref d))
      F₈ (Src.list hA.h (At.ofV ha₂)) ⟨View.le.refl _, ⟨kd₀, hdv₀⟩, Only.refl _ _, by dl_step, by dl_step, by dl_step, by dl_step, by dl_step, by dl_step, by dl_step⟩ ?_ ?_ ?_
    · rintro i B' V' m' ⟨_, _, on', _⟩ _
      exact At.ofV ((on' _ (by simp)).trans ha₂)
    · rintro i v R₂ B₃ V₃ m₃ s₉ hi hP hl₃ ⟨_, ⟨kd, hdv⟩, on₃, hn1, hn2, hm1, hm2, hm3, hm4, hm5⟩ F₉
      obtain ⟨lt, hlt, rfl⟩ : ∃ lt, (up j)[i]? = some lt ∧ clsV D lt = v := by simpa using hP
      have hlt3 := hup₂.lt j hj lt (List.mem_of_getElem? hlt)
      have hclsV : clsV D lt = .ref (D.cls lt) := rfl
      rw [hclsV]
      clear F₈ F₇
      repeat walk1
      rename_i s₁₀ F₁₀
      refine wpAny_loadName_local rfl rfl F₁₀.ns (by dl_step) ?_
      repeat walk1
      refine c_getvars F₁₀ Cc' (by kd_p) (hD₂.le hl₃) hlt3 (hl₃ _ _ (hl₂ _ _ ht₁)) fun l B₄ V₄ s₁₁ k' hl₄ on₄ hl7 F₁₁ => ?_
      have hdv₄ : V₄ (6, 2) = some (dp, listO [] kd) := (on₄ _ (by decide)).trans hdv
      refine l_iadd F₁₁ hdv₄ (At.ofV hl7) (by simp) fun k'' s₁₂ F₁₂ => ?_
      repeat walk1
      rename_i s₁₃ F₁₃
      refine BodyEnd.next ⟨_, _, _, hl₄, ⟨hl₃.trans hl₄, ⟨k'', put_self _ _ _⟩, (on₃.trans (on₄.mono (by decide))).put (by decide) _, by dl_step, by dl_step, by dl_step, by dl_step, by dl_step, by dl_step, by dl_step⟩, F₁₃⟩
    rintro B₃ V₃ m₃ s₉ hl₃ ⟨_, ⟨kd₁, hdv₁⟩, on₃, hn1, hn2, hm1, hm2, hm3, hm4, hm5⟩ F₉
    clear F₈ F₇
    have hl₁₃ := hl₂.trans hl₃
    have hD₃ := hD₁.le hl₁₃
    have hg₃ : V₃ (1, 0) = some (g, listO (G.map aval) kg) := (on₃ _ (by decide)).trans ((on₂ _ (by decide)).trans hg₁)
    have ht₃ := hl₁₃ _ _ ht₁
    have hG₃ := hG₁.le hl₁₃
    repeat walk1
    refine wpAny_For ?_
    repeat walk1
    refine for_ids (fun i B' V' m' => (∃ kd, V' (6, 2) = some (dp, listO (((List.range i).filter fun q => q != j && (mem (G.map (·.2)) j q || mem (G.map (·.2)) q j)).map (idV D)) kd)) ∧ Only [6] V₃ V' ∧ m' (Str.ofString "tv") = some (.ref (D.id j)) ∧ m' (Str.ofString "deps") = some (.ref dp) ∧ m' (Str.ofString "tvars") = some (.ref tl) ∧ m' (Str.ofString "graph") = some (.ref g) ∧ m' (Str.ofString "lowers") = some (.ref dl) ∧ m' (Str.ofString "uppers") = some (.ref du) ∧ m' (Str.ofString "res") = some (.ref d))
      F₉ hA.h ht₃ ⟨⟨kd₁, hdv₁⟩, Only.refl _ _, by dl_step, by dl_step, by dl_step, by dl_step, by dl_step, by dl_step, by dl_step⟩ ?_ ?_
    · rintro q R₂ B₄ V₄ m₄ s₁₀ hq hl₄ ⟨⟨kd, hdv⟩, on₄, hn1, hn2, hm1, hm2, hm3, hm4, hm5⟩ F₁₀
      have hD₄ := hD₃.le hl₄
      have hg₄ : V₄ (1, 0) = some (g, listO (G.map aval) kg) := (on₄ _ (by decide)).trans hg₃
      have gi := hG₃.le hl₄
      have hidj := hD₄.id j hj
      have hidq := hD₄.id q hq
      clear F₉
      have hsn := dep_snoc (fun q => q != j && (mem (G.map (·.2)) j q || mem (G.map (·.2)) q j)) q
      have hlq : ((List.range q).filter fun q => q != j && (mem (G.map (·.2)) j q || mem (G.map (·.2)) q j)).length ≤ 5 := Nat.le_trans (List.length_filter_le _ _) (by rw [List.length_range]; have := hD₄.n5; omega)
      simp only [← Gm_mem] at hsn hlq hdv
      have hlq' : (((List.range q).filter fun q => q != j && (Gm G j q || Gm G q j)).map (idV D)).length ≤ sizeLine := by rw [List.length_map]; simp [sizeLine]; omega
      simp only [← Gm_mem]
      repeat' walk1
      · rename_i s₁₂ F₁₂ hqj
        dsimp only
        refine BodyEnd.cont ⟨_, _, _, by kbe_bound, ⟨⟨kd, ?_⟩, on₄, by dl_step, by dl_step, by dl_step, by dl_step, by dl_step, by dl_step, by dl_step⟩, F₁₂⟩
        rw [hsn, if_neg (by simp [bne, hqj]), List.append_nil]
        exact hdv
      · rename_i hg1 s₁₃ F₁₃
        have hqj : (q == j) = false := by assumption
        refine BodyEnd.next ⟨_, _, _, by kbe_bound, ⟨⟨kd + 1, ?_⟩, on₄.put (by decide) _, by dl_step, by dl_step, by dl_step, by dl_step, by dl_step, by dl_step, by dl_step⟩, F₁₃⟩
        rw [hsn, if_pos (by simp [bne, hqj, hg1]), List.map_append]
        exact put_self _ _ _
      · rename_i hg2 s₁₃ F₁₃
        have hqj : (q == j) = false := by assumption
        refine BodyEnd.next ⟨_, _, _, by kbe_bound, ⟨⟨kd + 1, ?_⟩, on₄.put (by decide) _, by dl_step, by dl_step, by dl_step, by dl_step, by dl_step, by dl_step, by dl_step⟩, F₁₃⟩
        rw [hsn, if_pos (by simp [bne, hqj, hg2]), List.map_append]
        exact put_self _ _ _
      · rename_i s₁₃ F₁₃ hg2
        have hqj : (q == j) = false := by assumption
        have hg1 : Gm G j q = false := by assumption
        refine BodyEnd.next ⟨_, _, _, by kbe_bound, ⟨⟨kd, ?_⟩, on₄, by dl_step, by dl_step, by dl_step, by dl_step, by dl_step, by dl_step, by dl_step⟩, F₁₃⟩
        rw [hsn, if_neg (by simp [bne, hqj, hg1, hg2]), List.append_nil]
        exact hdv
    · rintro B₄ V₄ m₄ s₁₀ hl₄ ⟨⟨kd, hdv⟩, on₄, hn1, hn2, hm1, hm2, hm3, hm4, hm5⟩ F₁₀
      have hD₄ := hD₃.le hl₄
      have hlt : ∀ y ∈ (List.range D.n).filter (fun q => q != j && (mem (G.map (·.2)) j q || mem (G.map (·.2)) q j)), y < D.n := fun y hy => List.mem_range.mp (List.mem_filter.mp hy).1
      have hlq : ((List.range D.n).filter fun q => q != j && (mem (G.map (·.2)) j q || mem (G.map (·.2)) q j)).length ≤ 5 := Nat.le_trans (List.length_filter_le _ _) (by rw [List.length_range]; exact hD₄.n5)
      clear F₉
      dsimp only
      repeat walk1
      refine c_dedup (n := 1) (idV D) (6, 3) F₁₀ Cc' (by kd_p) (At.ofV hdv) (fun p => At.ofV ((put_other _ _ (by decide)).trans hdv)) (fun y hy x hx => EqT.id (hD₄.id y (hlt y hy)) (hD₄.id x (hlt x hx))) (by omega) fun b₂ k₃ s₁₁ hb₂ F₁₁ => ?_
      repeat walk1
      obtain ⟨as, ep, h1, h2, h3⟩ := hdep.ex
      have onA : Only [6, 7] V₁ V₄ := (on₂.trans (on₃.trans (on₄.mono (by decide)))).mono (by decide)
      have h2' : (V₄.put (6, 3) (b₂, listO ((dedup (depOf D.n (G.map (·.2)) j)).map (idV D)) k₃)) (10, 100) = some (d, dictD D.id (as.map .ref) ep) := by
        rw [put_other _ _ (by decide), onA _ (by decide)]; exact h2
      refine d_store (vs := as.map .ref) F₁₁ Cc' (by kd_p) h2' (fun i hi => hD₄.id i (by simp [h1] at hi; omega)) (by simp [h1]; have := hD₄.n5; omega) (hD₄.id j hj) (Nat.lt_of_lt_of_le hj hD₄.n5) (by simp [h1]) fun ep' s₁₂ F₁₂ => ?_
      have hj100 : j ≠ 100 := by have := hD.n5; omega
      have hi' : ((V₄.put (6, 3) (b₂, listO ((dedup (depOf D.n (G.map (·.2)) j)).map (idV D)) k₃)).put (10, 100) (d, dictD D.id (putAt (as.map .ref) j (.ref b₂)) ep')) (6, 3) = some (b₂, listO ((dedup (depOf D.n (G.map (·.2)) j)).map (idV D)) k₃) := by
        rw [put_other _ _ (by decide)]; exact put_self _ _ _
      have F₁₃ := F₁₂.moveV (i' := (10, j)) hi'
      repeat walk1
      refine BodyEnd.next ⟨_, _, _, (hl₁₃.trans hl₄), ⟨⟨⟨as ++ [b₂], ep', by simp [h1], ?_, fun i a hi => ?_⟩⟩, ?_, by dl_step, by dl_step, by dl_step, by dl_step, by dl_step⟩, F₁₃⟩
      · rw [put_other _ _ (by simp; omega)]
        unfold Dyn.del
        rw [if_neg (by simp), put_self, List.map_append]
        have e : putAt (as.map Value.ref) j (.ref b₂) = as.map .ref ++ [b₂].map .ref := by unfold putAt; rw [if_neg (by simp [h1])]; rfl
        rw [e]
      · rw [List.getElem?_append] at hi
        split at hi
        · rename_i hlt'
          obtain ⟨k, e⟩ := h3 i a hi
          have hi100 : i ≠ 100 := by have := hD.n5; omega
          refine ⟨k, ?_⟩
          rw [put_other _ _ (by simp; omega)]
          unfold Dyn.del
          rw [if_neg (by simp), put_other _ _ (by simp; exact hi100), put_other _ _ (by simp), onA _ (by simp)]
          exact e
        · rename_i hge
          have e0 : i = j := by
            have := (List.getElem?_eq_some_iff.mp hi).1
            simp at this
            omega
          subst e0
          rw [h1] at hi
          simp at hi
          subst hi
          exact ⟨_, put_self _ _ _⟩
      · intro i hi
        simp only [List.mem_cons, List.not_mem_nil, or_false, not_or] at hi
        rw [put_other _ _ (fun e => hi.2.2 (by rw [e]))]
        unfold Dyn.del
        rw [if_neg (fun e => hi.1 (by rw [e])), put_other _ _ (fun e => hi.2.2 (by rw [e])), put_other _ _ (fun e => hi.1 (by rw [e]))]
        exact (onA i (by simp; exact ⟨hi.1, hi.2.1⟩)).trans (on₁ i (by simp; exact hi))
  · rintro B₁ V₁ m₁ s₃ hl₁ ⟨hdep, on₁, hm1, hm2, hm3, hm4, hm5⟩ F₃
    clear F₂
    repeat walk1
    exact h d _ _ _ hns hl₁ on₁ hdep (back _ _ _ _ F₃)
end

end
section
section
variable {prog : Program} {w : World} {A : Around} {E : Value → Shared → Prop} {s₀ s : Shared} {R Z B : View} {V : Dyn} {L x dx C fI y l tvs : Addr} {m mg mb : Str → Option Value} {i : Nat × Nat} {n k : Nat} {fs : List (Str × Value)}
theorem call_fnAC {f : Addr} {oc : Value} {od : Option Addr} {osl : Array (Option Value)} {nm qual : Str} {params : Arguments} {body : List Stmt} {scope : Scope} {dV kV doc pm cdv ct : Value} {an : Option Addr} {args : List Value} {binds : List (Str × Value)} {Q : Result → Shared → Prop}
    (cr : Nat) (F : St s₀ R Z B V L m s) (Cc : Cx w mg mb Z) (hA : Lv n A)
    (ho : List.lookup f (hd.heap_39 w.params) = some ⟨oc, od, .func (fnOf nm qual params body scope dV kV doc pm an cdv ct), osl⟩)
    (hcd : codeIn (hd.heap_39 w.params) cdv qual = true)
    (hbind : BindsTo s (fnOf nm qual params body scope dV kV doc pm an cdv ct) ⟨args, []⟩ binds)
    (hkind : ∀ n, ∀ x ∈ binds, scope.names.lookup x.1 = some .local ∨ (scope.names.lookup x.1 = some .cell ∧ ((cellsFrom n scope.names []).lookup x.1).isSome = true))
    (hnd : ((cellsFrom 0 scope.names []).map (·.1)).Nodup)
    (h : ∀ R' L' s' rows, CellRows (cellsFrom (L' + 1) scope.names []) (bindC (envOfC qual scope L' f cdv).kindOf binds fun _ => none) rows → St s₀ R' B B (rowsV V cr rows) L' (bindL (envOfC qual scope L' f cdv).kindOf binds fun _ => none) s' → Cx w mg mb B → (∀ B' V' m' s'', St s₀ R' B B' V' L' m' s'' → St s₀ R Z B' V' L m s'') →
      (∀ (j : Nat) (n : Str) (c : Addr), (cellsFrom (L' + 1) scope.names [])[j]? = some (n, c) → (envOfC qual scope L' f cdv).cells.lookup n = some c) →
      wpAny (model prog w) (A.deeper (envOfC qual scope L' f cdv)) (execs body (envOfC qual scope L' f cdv)) (fun fl s'' => Q (.ok (.ret (retOf fl))) s'') (fun _ _ => False) s')
    (hco : scope.isCoroutine = false := by rfl) (hgen : scope.isGenerator = false := by rfl) (hk : scope.kind = .function := by rfl) :
    codeAny (model prog w) A (.call (.ref f) ⟨args, []⟩) Q s := by
  have X := Cc.kin F.toFz
  refine codeAny_call_function (fd := fnOf nm qual params body scope dV kV doc pm an cdv ct) (body := body) hA.room (X _ _ ho) rfl hco hgen rfl (codeRec_of X hcd) (hbind _ _ _ _ ?_)
  refine wpAny_newFunctionEnv_cells hk (hkind _) fun env' he s' x => ?_
  subst he
  obtain ⟨R', rows, hr, F', back⟩ := F.enterC cr (get_fresh s.heap) (Nat.le_refl _) x (cellsFrom_names scope.names 0 (s.heap.objs.size + 1) [] [] rfl ▸ hnd)
  refine ⟨(Cc.nolim F.toFz).keeps x.toInCall.keep, codeAny_func ?_⟩
  refine wpAny_mono (h R' _ s' rows hr F' (Cc.le F.z) back fun j n c hj => lookup_of_mem_nodup (cellsFrom_names scope.names 0 (s.heap.objs.size + 1) [] [] rfl ▸ hnd) (List.mem_of_getElem? hj)) (fun fl s'' q => ?_) fun _ _ e => e.elim
  cases fl <;> exact q
theorem St.finish {V V₁ : Dyn} {i1 i2 : Nat × Nat} {a1 a2 : Addr} {o1 o2 : Obj} {ws : List Nat} (F : St s₀ R Z B V₁ L m s) (h1 : V₁ i1 = some (a1, o1)) (h2 : V₁ i2 = some (a2, o2)) (hne : i2 ≠ i1) (w1 : i1.1 ∈ ws) (w2 : i2.1 ∈ ws) (on : Only ws V V₁) (hV : ∀ i, i.1 ∈ ws → V i = none) :
    ∃ B', B.le B' ∧ B' a1 = some o1 ∧ B' a2 = some o2 ∧ St s₀ R Z B' V L m s := by
  have F₁ := F.settle h1
  have h2' : (V₁.del i1) i2 = some (a2, o2) := by unfold Dyn.del; rw [if_neg hne]; exact h2
  have F₂ := F₁.settle h2'
  have n1 := (F.v _ _ _ h1).2.2
  have n2 := (F₁.v _ _ _ h2').2.2
  refine ⟨_, (vput_le n1).trans (vput_le n2), vput_le n2 _ _ (vput_self _ _ _), vput_self _ _ _, F₂.dropV fun i p e => ?_⟩
  by_cases hi : i.1 ∈ ws
  · rw [hV i hi] at e; cases e
  · unfold Dyn.del
    rw [if_neg (fun q => hi (by rw [q]; exact w2)), if_neg (fun q => hi (by rw [q]; exact w1)), on i hi]
    exact e
/-- turned objects of some roles forgotten -/
theorem St.forget {V V₁ : Dyn} {ws : List Nat} (F : St s₀ R Z B V₁ L m s) (on : Only ws V V₁) (hV : ∀ i, i.1 ∈ ws → V i = none) : St s₀ R Z B V L m s :=
  F.dropV fun i p e => by
    by_cases hi : i.1 ∈ ws
    · rw [hV i hi] at e; cases e
    · rw [on i hi]; exact e
theorem c_CD {Q : Value → Shared → Prop} (i : Nat × Nat) (F : St s₀ R Z B V L m s) (Cc : Cx w mg mb Z) (hA : Lv 3 A)
    (h : ∀ x B' s' V', B.le B' → (∀ j, j ≠ i → V' j = V j) → V' i = none → St s₀ R Z B' V' L m s' → Q (.ref x) s') : wpAny (model prog w) A (call (.ref 136) [.ref tvs]) Q E s := by
  refine call_cls (fI := 133) i F Cc (by kernel_rfl) (by kernel_rfl) (by kernel_rfl) fun x dx s₁ hbx hbd F₁ => ?_
  have hxx : (B.put x (instObj 136 dx)) x = some (instObj 136 dx) := vput_self _ _ _
  have hk0 : Keyed [] [] := .nil
  refine call_fnA (n := 1) (binds := [("self", .ref x), ("type_vars", .ref tvs)]) F₁ Cc (Lv.make (n := 1) hA.mono) rfl (by kernel_rfl) (BindsTo.of_eq rfl) (locs rfl) (fun R' L' s' F' Cc' back => ?_)
  clear F₁
  repeat walk1
  rename_i es k s₂ hk F₂
  have F₃ := back _ _ _ _ F₂
  have F₄ := F₃.settle (put_self _ _ _)
  refine h x _ s₂ _ ((vput_le hbx).trans (vput_le (F₃.v _ _ _ (put_self _ _ _)).2.2)) (fun j hj => ?_) (by unfold Dyn.del; rw [if_pos rfl]) F₄
  unfold Dyn.del
  rw [if_neg hj, put_put, put_other _ _ hj]
end

end
section
theorem rowsV1 (V : Dyn) (c : Nat) (p0 : Addr × Obj) : rowsV V c [p0] = V.put (c, 0) p0 := by
  have e0 : (rowsV V c []).put (c, 0) p0 = rowsV V c [p0] := rowsV_snoc V c [] p0
  rw [← e0, rowsV_nil]
theorem one_row {rows : List (Addr × Obj)} {a : Addr × Obj} (h : rows.length = 1) (h0 : rows[0]? = some a) : rows = [a] := by
  cases rows with
  | nil => simp at h
  | cons x r =>
    cases r with
    | nil => simp at h0; rw [h0]
    | cons y r => simp at h
section
variable {prog : Program} {w : World} {A : Around} {E : Value → Shared → Prop} {s₀ s : Shared} {R Z B : View} {V : Dyn} {L x dx C fI y l tvs bs : Addr} {m mg mb : Str → Option Value} {i : Nat × Nat} {n k k2 : Nat} {fs : List (Str × Value)} {t : Tok} {nm : Str}
set_option maxHeartbeats 4000000 in
theorem c_TI0 {Q : Value → Shared → Prop} (F : St s₀ R Z B V L m s) (Cc : Cx w mg mb Z) (hA : Lv 8 A) (h1 : B tvs = some (listO [] k)) (h2 : B bs = some (listO [] k2)) (hV : ∀ i, i.1 = 8 → V i = none)
    (h : ∀ x d tl ml k' B' s', B.le B' → SInst B' x 162 [(Str.ofString "fullname", .str nm t), (Str.ofString "defn", .ref d), (Str.ofString "type_vars", .ref tl), (Str.ofString "bases", .ref bs), (Str.ofString "mro", .ref ml)] → B' ml = some (listO [.ref x] k') →
      St s₀ R Z B' V L m s' → Q (.ref x) s') : wpAny (model prog w) A (call (.ref 162) [.str nm t, .ref tvs, .ref bs]) Q E s := by
  refine call_cls (fI := 152) (8, 1) F Cc (by kernel_rfl) (by kernel_rfl) (by kernel_rfl) fun x dx s₁ hbx hbd F₁ => ?_
  have hxx : (B.put x (instObj 162 dx)) x = some (instObj 162 dx) := vput_self _ _ _
  have hle : B.le (B.put x (instObj 162 dx)) := vput_le hbx
  have h1' := hle _ _ h1
  have h2' := hle _ _ h2
  have hk0 : Keyed [] [] := .nil
  have hA₁ : Lv 7 (A.under (.builtin "type.__call__" ⟨.ref 162 :: [.str nm t, .ref tvs, .ref bs], []⟩)) := Lv.make (n := 7) hA.mono
  generalize A.under (.builtin "type.__call__" ⟨.ref 162 :: [.str nm t, .ref tvs, .ref bs], []⟩) = A₁ at hA₁
  refine call_fnAC (n := 7) (binds := [("self", .ref x), ("fullname", .str nm t), ("type_vars", .ref tvs), ("bases", .ref bs)]) 8 F₁ Cc hA₁ rfl (by kernel_rfl) (BindsTo.of_eq rfl) ?_ (by decide) (fun R' L' s' rows hr F' Cc' back look => ?_)
  · intro n x hx
    simp only [List.mem_cons, List.not_mem_nil, or_false] at hx
    rcases hx with rfl | rfl | rfl | rfl <;> exact .inl rfl
  obtain ⟨hr0, hr⟩ := hr
  obtain ⟨o0, r0, hd0⟩ := hr 0 _ _ rfl
  have lk0 := look 0 _ _ rfl
  clear look
  have er := one_row (show rows.length = 1 from hr0) r0
  subst er
  rw [rowsV1] at F'
  clear hr r0 hr0 F₁
  change St _ _ _ _ _ _ (fun y => if y = Str.ofString "bases" then some (Value.ref bs) else if y = Str.ofString "type_vars" then some (Value.ref tvs) else if y = Str.ofString "fullname" then some (Value.str nm t) else if y = Str.ofString "self" then some (Value.ref x) else none) _ at F'
  repeat walk1
  rename_i es₁ k₁ s₂ hk₁ F₂
  refine c_CD (8, 7) F₂ Cc' (by kd_p) fun d B₃ s₃ V₃ hl₃ onV hV7 F₃ => ?_
  have v1 : V₃ (8, 1) = some (dx, dictOf es₁ k₁) := (onV _ (by decide)).trans (put_self _ _ _)
  have v0 : V₃ (8, 0) = some (L' + 1, o0) := (onV _ (by decide)).trans ((put_other _ _ (by decide)).trans (put_self _ _ _))
  have hxx₃ := hl₃ _ _ hxx
  have h1₃ := hl₃ _ _ h1'
  have h2₃ := hl₃ _ _ h2'
  clear F₂ F'
  repeat walk1
  rename_i es₂ k₂ s₄ hk₂ F₄
  refine lc_none (i := (8, 2)) (Out := fun _ _ zs => zs = []) F₄ (Src.list hA₁.h (At.ofB h1₃)) (loop1 (fun _ => True) (by simp) (Cc'.le hl₃) (fun B' D ys n hl => At.ofB (hl _ _ h1₃)) (fun _ _ _ _ _ h => h) trivial ?_) ?_
  · intro C Dd j v ys nn R₁ B₁ m₁ s₃ hj
    simp at hj
  intro tl B₅ zs kt s₅ hl₅ hcat F₅
  cases hcat
  clear F₄ F₃
  have hxx₅ := hl₅ _ _ hxx₃
  have h2₅ := hl₅ _ _ h2₃
  repeat walk1
  rename_i es₃ k₃ s₆ hk₃ F₆
  refine n_list (8, 3) F₆ fun ab s₇ hbab F₇ => ?_
  repeat walk1
  rename_i s₈ F₈
  clear F₇ F₆ F₅
  refine wpAny_For ?_
  repeat walk1
  refine for_src (fun i B' V' m' => B' = B₅ ∧ V' = _ ∧ m' = _) F₈ (Src.list hA₁.deeper.h (At.ofB h2₅)) ⟨rfl, rfl, rfl⟩ ?_ ?_ ?_
  · rintro i B' V' m' ⟨rfl, rfl, rfl⟩ _
    exact At.ofB h2₅
  · rintro i v R₂ B₂ V₂ m₂ s₇ hi
    simp at hi
  rintro B₆ V₆ m₆ s₁₀ hl₆ ⟨rfl, rfl, rfl⟩ F₁₀
  clear F₈
  repeat walk1
  refine n_list (8, 4) F₁₀ fun l4 s₁₁ _ F₁₁ => ?_
  clear F₁₀
  repeat walk1
  refine lc_none (i := (8, 5)) (Out := fun _ _ zs => zs = []) F₁₁ (Src.list hA₁.h (vs := []) (At.ofV (i := (8, 3)) (by dl_mem))) (loop1 (fun _ => True) (by simp) (Cc'.le (hl₃.trans hl₅)) (fun B' D ys n hl => At.ofV (i := (8, 3)) (by dl_mem)) (fun _ _ _ _ _ h => h) trivial ?_) ?_
  · intro C Dd j v ys nn R₁ B₁ m₁ s₃ hj
    simp at hj
  intro l5 B₇ zs k5 s₁₂ hl₇ hcat F₁₂
  cases hcat
  clear F₁₁
  refine l_add (8, 6) F₁₂ (At.ofV (i := (8, 4)) (by dl_mem)) (At.ofV (i := (8, 5)) (by dl_mem)) (by simp [sizeLine]) fun l6 s₁₃ _ F₁₃ => ?_
  clear F₁₂
  repeat walk1
  refine lc_none (i := (8, 8)) (Out := fun _ _ zs => zs = []) F₁₃ (Src.list hA₁.h (vs := []) (At.ofV (i := (8, 3)) (by dl_mem))) (loop1 (fun _ => True) (by simp) (Cc'.le (hl₃.trans (hl₅.trans hl₇))) (fun B' D ys n hl => At.ofV (i := (8, 3)) (by dl_mem)) (fun _ _ _ _ _ h => h) trivial ?_) ?_
  · intro C Dd j v ys nn R₁ B₁ m₁ s₃ hj
    simp at hj
  intro l8 B₈ zs k8 s₁₄ hl₈ hcat F₁₄
  cases hcat
  clear F₁₃
  refine l_add (8, 9) F₁₄ (At.ofV (i := (8, 6)) (by dl_mem)) (At.ofV (i := (8, 8)) (by dl_mem)) (by simp [sizeLine]) fun l9 s₁₅ _ F₁₅ => ?_
  clear F₁₄
  have hl₅₈ : B₆.le B₈ := hl₇.trans hl₈
  have hxx₈ := hl₅₈ _ _ hxx₅
  repeat walk1
  rename_i es₄ k₄ s₁₆ hk₄ F₁₆
  have F₁₇ := back _ _ _ _ F₁₆
  have on3 : Only [8] V V₃ := fun j hj => (onV j (fun e => hj (by rw [e]; decide))).trans ((((Only.refl [8] V).put (by decide) _).put (by decide) _).put (by decide) _ j hj)
  obtain ⟨B₉, hl₉, x9, m9, F₁₈⟩ := F₁₇.finish (i1 := (8, 1)) (i2 := (8, 9)) (ws := [8]) (put_self _ _ _) (by dl_mem) (by decide) (by decide) (by decide) (by repeat (first | exact on3 | refine Only.put ?_ (by decide) _)) (fun i hi => hV i (by simpa using hi))
  refine h x d tl l9 _ B₉ s₁₆ (hle.trans (hl₃.trans (hl₅.trans (hl₅₈.trans hl₉)))) ⟨dx, es₄, k₄, At.ofB (hl₉ _ _ hxx₈), At.ofB x9, hk₄⟩ m9 F₁₈
  done

end

end
section
section
variable {prog : Program} {w : World} {A : Around} {E : Value → Shared → Prop} {s₀ s : Shared} {R Z B : View} {V : Dyn} {L x dx C fI y l tvs bs top root rb rm : Addr} {m mg mb : Str → Option Value} {i : Nat × Nat} {n k k2 k3 k4 : Nat} {fs : List (Str × Value)} {t t0 : Tok} {nm nm0 : Str} {d0 tl0 e0 : Value}
set_option maxHeartbeats 4000000 in
theorem c_TI1 {Q : Value → Shared → Prop} (F : St s₀ R Z B V L m s) (Cc : Cx w mg mb Z) (hA : Lv 8 A) (h1 : B tvs = some (listO [] k)) (h2 : B bs = some (listO [.ref top] k2)) (h3 : SInst B top 328 [(Str.ofString "type", .ref root), (Str.ofString "args", e0)]) (h4 : SInst B root 162 [(Str.ofString "fullname", .str nm0 t0), (Str.ofString "defn", d0), (Str.ofString "type_vars", tl0), (Str.ofString "bases", .ref rb), (Str.ofString "mro", .ref rm)]) (h5 : B rb = some (listO [] k3)) (h6 : B rm = some (listO [.ref root] k4)) (hV : ∀ i, i.1 = 8 → V i = none)
    (h : ∀ x d tl ml B' s', B.le B' → SInst B' x 162 [(Str.ofString "fullname", .str nm t), (Str.ofString "defn", .ref d), (Str.ofString "type_vars", .ref tl), (Str.ofString "bases", .ref bs), (Str.ofString "mro", .ref ml)] →
      St s₀ R Z B' V L m s' → Q (.ref x) s') : wpAny (model prog w) A (call (.ref 162) [.str nm t, .ref tvs, .ref bs]) Q E s := by
  refine call_cls (fI := 152) (8, 1) F Cc (by kernel_rfl) (by kernel_rfl) (by kernel_rfl) fun x dx s₁ hbx hbd F₁ => ?_
  have hxx : (B.put x (instObj 162 dx)) x = some (instObj 162 dx) := vput_self _ _ _
  have hle : B.le (B.put x (instObj 162 dx)) := vput_le hbx
  have h1' := hle _ _ h1
  have h2' := hle _ _ h2
  have hk0 : Keyed [] [] := .nil
  have hA₁ : Lv 7 (A.under (.builtin "type.__call__" ⟨.ref 162 :: [.str nm t, .ref tvs, .ref bs], []⟩)) := Lv.make (n := 7) hA.mono
  generalize A.under (.builtin "type.__call__" ⟨.ref 162 :: [.str nm t, .ref tvs, .ref bs], []⟩) = A₁ at hA₁
  refine call_fnAC (n := 7) (binds := [("self", .ref x), ("fullname", .str nm t), ("type_vars", .ref tvs), ("bases", .ref bs)]) 8 F₁ Cc hA₁ rfl (by kernel_rfl) (BindsTo.of_eq rfl) ?_ (by decide) (fun R' L' s' rows hr F' Cc' back look => ?_)
  · intro n x hx
    simp only [List.mem_cons, List.not_mem_nil, or_false] at hx
    rcases hx with rfl | rfl | rfl | rfl <;> exact .inl rfl
  obtain ⟨hr0, hr⟩ := hr
  obtain ⟨o0, r0, hd0⟩ := hr 0 _ _ rfl
  have lk0 := look 0 _ _ rfl
  clear look
  have er := one_row (show rows.length = 1 from hr0) r0
  subst er
  rw [rowsV1] at F'
  clear hr r0 hr0 F₁
  change St _ _ _ _ _ _ (fun y => if y = Str.ofString "bases" then some (Value.ref bs) else if y = Str.ofString "type_vars" then some (Value.ref tvs) else if y = Str.ofString "fullname" then some (Value.str nm t) else if y = Str.ofString "self" then some (Value.ref x) else none) _ at F'
  repeat walk1
  rename_i es₁ k₁ s₂ hk₁ F₂
  refine c_CD (8, 7) F₂ Cc' (by kd_p) fun d B₃ s₃ V₃ hl₃ onV hV7 F₃ => ?_
  have v1 : V₃ (8, 1) = some (dx, dictOf es₁ k₁) := (onV _ (by decide)).trans (put_self _ _ _)
  have v0 : V₃ (8, 0) = some (L' + 1, o0) := (onV _ (by decide)).trans ((put_other _ _ (by decide)).trans (put_self _ _ _))
  have hxx₃ := hl₃ _ _ hxx
  have h1₃ := hl₃ _ _ h1'
  have h2₃ := hl₃ _ _ h2'
  clear F₂ F'
  repeat walk1
  rename_i es₂ k₂ s₄ hk₂ F₄
  refine lc_none (i := (8, 2)) (Out := fun _ _ zs => zs = []) F₄ (Src.list hA₁.h (At.ofB h1₃)) (loop1 (fun _ => True) (by simp) (Cc'.le hl₃) (fun B' D ys n hl => At.ofB (hl _ _ h1₃)) (fun _ _ _ _ _ h => h) trivial ?_) ?_
  · intro C Dd j v ys nn R₁ B₁ m₁ s₃ hj
    simp at hj
  intro tl B₅ zs kt s₅ hl₅ hcat F₅
  cases hcat
  clear F₄ F₃
  have hxx₅ := hl₅ _ _ hxx₃
  have h2₅ := hl₅ _ _ h2₃
  repeat walk1
  rename_i es₃ k₃ s₆ hk₃ F₆
  refine n_list (8, 3) F₆ fun ab s₇ hbab F₇ => ?_
  repeat walk1
  rename_i s₈ F₈
  clear F₇ F₆ F₅
  have hle₅ : B.le B₅ := hle.trans (hl₃.trans hl₅)
  have ht₅ := h3.le hle₅
  have hr₅ := h4.le hle₅
  have hrb₅ := hle₅ _ _ h5
  have hrm₅ := hle₅ _ _ h6
  refine wpAny_For ?_
  repeat walk1
  refine for_src (fun i B' V' m' => B₅.le B' ∧ Only [8] V₃ V' ∧ V' (8, 1) = some (dx, dictOf es₃ k₃) ∧ (∃ ka, V' (8, 3) = some (ab, listO (if i = 0 then [] else [.ref root]) ka)) ∧ (∃ o v, V' (8, 0) = some (L' + 1, o) ∧ o.data = .cell v) ∧ m' (Str.ofString "self") = some (.ref x) ∧ m' (Str.ofString "above") = some (.ref ab))
    F₈ (Src.list hA₁.deeper.h (At.ofB h2₅)) ⟨View.le.refl _, by repeat (first | exact Only.refl _ _ | refine Only.put ?_ (by decide) _), by dl_mem, ⟨0, by rw [if_pos rfl]; dl_mem⟩, ⟨o0, _, by dl_mem, hd0⟩, by dl_step, by dl_step⟩ ?_ ?_ ?_
  · rintro i B' V' m' ⟨hl, _⟩ _
    exact At.ofB (hl _ _ h2₅)
  · rintro i v R₂ B₂ V₂ m₂ s₉ hi hP hl₂ ⟨_, on₂, v1₂, ⟨ka, v3₂⟩, ⟨oc, vc, v0₂, hdc⟩, hm1, hm2⟩ F₉
    have hi0 : i = 0 := by simp at hi; exact hi
    subst hi0
    obtain rfl : .ref top = v := by simpa using hP
    have ht₂ := ht₅.le hl₂
    have hr₂ := hr₅.le hl₂
    have hrb₂ := hl₂ _ _ hrb₅
    have hrm₂ := hl₂ _ _ hrm₅
    clear F₈
    repeat walk1
    rename_i s₁₀ F₁₀
    refine wpAny_For ?_
    repeat walk1
    rename_i F₁₁
    rw [if_pos rfl] at v3₂
    refine for_src (fun i B' V' m' => B₂.le B' ∧ Only [8] V₂ V' ∧ V' (8, 1) = some (dx, dictOf es₃ k₃) ∧ (∃ ka, V' (8, 3) = some (ab, listO (if i = 0 then [] else [.ref root]) ka)) ∧ (∃ o v, V' (8, 0) = some (L' + 1, o) ∧ o.data = .cell v) ∧ m' (Str.ofString "self") = some (.ref x) ∧ m' (Str.ofString "above") = some (.ref ab))
      F₁₁ (Src.list hA₁.deeper.h (At.ofB hrm₂)) ⟨View.le.refl _, Only.refl _ _, v1₂, ⟨ka, by rw [if_pos rfl]; exact v3₂⟩, ⟨oc, _, v0₂, hdc⟩, by dl_step, by dl_step⟩ ?_ ?_ ?_
    · rintro i B' V' m' ⟨hl, _⟩ _
      exact At.ofB (hl _ _ hrm₂)
    · rintro i v R₃ B₃' V₃' m₃ s₁₂ hi hP hl₃' ⟨_, on₃', v1₃, ⟨ka₃, v3₃⟩, ⟨oc₃, vc₃, v0₃, hdc₃⟩, hm1, hm2⟩ F₁₂
      have hi0 : i = 0 := by simp at hi; exact hi
      subst hi0
      obtain rfl : .ref root = v := by simpa using hP
      rw [if_pos rfl] at v3₃
      clear F₁₁ F₉ F₁₀
      repeat walk1
      rename_i o4 s₁₄ hd4 F₁₄
      have Cc₃ := Cc'.le (hl₃.trans (hl₅.trans (hl₂.trans hl₃')))
      refine lc_none (i := (8, 5)) (Out := fun _ _ zs => zs = []) F₁₄ (Src.list hA₁.h (vs := []) (At.ofV (i := (8, 3)) (by dl_mem))) (loop1 (fun _ => True) (by simp) Cc₃ (fun B' D ys n hl => At.ofV (i := (8, 3)) (by dl_mem)) (fun _ _ _ _ _ h => h) trivial ?_) ?_
      · intro C Dd j v ys nn R₁ B₁ m₁ s₃ hj
        simp at hj
      intro l5 B₅' zs k5 s₁₅ hl₅' hcat F₁₅
      cases hcat
      clear F₁₄ F₁₂
      repeat walk1
      rename_i s₁₆ F₁₆
      refine BodyEnd.next ⟨_, _, _, hl₅', ⟨hl₃'.trans hl₅', by repeat (first | exact on₃' | refine Only.put ?_ (by decide) _), by dl_mem, ⟨ka₃ + 1, ?_⟩, ⟨o4, _, by dl_mem, hd4⟩, hm1, hm2⟩, F₁₆⟩
      rw [if_neg (by decide)]
      exact put_self _ _ _
    rintro B₄ V₄ m₄ s₁₃ hl₄ ⟨_, on₄, v1₄, v3₄, v0₄, hm1', hm2'⟩ F₁₃
    clear F₁₁ F₉ F₁₀
    repeat walk1
    refine BodyEnd.next ⟨_, _, _, hl₄, ⟨hl₂.trans hl₄, on₂.trans on₄, v1₄, v3₄, v0₄, hm1', hm2'⟩, F₁₃⟩
  rintro B₆ V₆ m₆ s₁₀ hl₆ ⟨_, on₆, v1₆, ⟨ka, v3₆⟩, _, hm1, hm2⟩ F₁₀
  clear F₈
  repeat walk1
  rw [if_neg (by simp)] at v3₆
  have hr₆ := hr₅.le hl₆
  have hrb₆ := hl₆ _ _ hrb₅
  refine n_list (8, 4) F₁₀ fun l4 s₁₁ _ F₁₁ => ?_
  clear F₁₀
  repeat walk1
  have Cc₆ := Cc'.le (hl₃.trans (hl₅.trans hl₆))
  refine lc_none (i := (8, 5)) (Out := fun _ _ zs => zs = []) F₁₁ (Src.list hA₁.h (vs := [.ref root]) (At.ofV (i := (8, 3)) (by dl_mem))) (loop1 (fun _ => True) (by simp [sizeLine]) Cc₆ (fun B' D ys n hl => At.ofV (i := (8, 3)) (by dl_mem)) (fun _ _ _ _ _ h => h) trivial ?_) ?_
  · intro C Dd j v ys nn R₁ B₁ m₁ s₁₂ hj hP hl _ _ Cc₁ F₁₂
    have hj0 : j = 0 := by simp at hj; exact hj
    subst hj0
    obtain rfl : .ref root = v := by simpa using hP
    have hr₁ := hr₆.le hl
    have hrb₁ := hl _ _ hrb₆
    clear F₁₁
    repeat walk1
    rename_i s₁₃ F₁₃
    exact Leaf.mk ⟨_, _, View.le.refl _, trivial, trivial, F₁₃⟩
  intro l5 B₇ zs k5 s₁₂ hl₇ hcat F₁₂
  obtain rfl : zs = [] := by
    cases hcat with
    | succ c o => cases c; simpa using o
  clear F₁₁
  refine l_add (8, 6) F₁₂ (At.ofV (i := (8, 4)) (by dl_mem)) (At.ofV (i := (8, 5)) (by dl_mem)) (by simp [sizeLine]) fun l6 s₁₃ _ F₁₃ => ?_
  clear F₁₂
  have Cc₇ := Cc₆.le hl₇
  have hr₇ := hr₆.le hl₇
  have hrb₇ := hl₇ _ _ hrb₆
  repeat walk1
  refine lc_none (i := (8, 8)) (Out := fun _ _ zs => zs = [.ref root]) F₁₃ (Src.list hA₁.h (vs := [.ref root]) (At.ofV (i := (8, 3)) (by dl_mem))) (loop1 (fun _ => True) (by simp [sizeLine]) Cc₇ (fun B' D ys n hl => At.ofV (i := (8, 3)) (by dl_mem)) (fun _ _ _ _ _ h => h) trivial ?_) ?_
  · intro C Dd j v ys nn R₁ B₁ m₁ s₁₂ hj hP hl _ _ Cc₁ F₁₂
    have hj0 : j = 0 := by simp at hj; exact hj
    subst hj0
    obtain rfl : .ref root = v := by simpa using hP
    have hr₁ := hr₇.le hl
    have hrb₁ := hl _ _ hrb₇
    clear F₁₃
    repeat walk1
    rename_i s₁₃ F₁₃
    exact Leaf.mk ⟨_, _, View.le.refl _, rfl, trivial, F₁₃⟩
  intro l8 B₈ zs k8 s₁₄ hl₈ hcat F₁₄
  obtain rfl : zs = [.ref root] := by
    cases hcat with
    | succ c o => cases c; simpa using o
  clear F₁₃
  refine l_add (8, 9) F₁₄ (At.ofV (i := (8, 6)) (by dl_mem)) (At.ofV (i := (8, 8)) (by dl_mem)) (by simp [sizeLine]) fun l9 s₁₅ _ F₁₅ => ?_
  clear F₁₄
  have hl₅₈ : B₅.le B₈ := hl₆.trans (hl₇.trans hl₈)
  have hxx₈ := hl₅₈ _ _ hxx₅
  repeat walk1
  rename_i es₄ k₄' s₁₆ hk₄ F₁₆
  have F₁₇ := back _ _ _ _ F₁₆
  have on3 : Only [8] V V₃ := fun j hj => (onV j (fun e => hj (by rw [e]; decide))).trans ((((Only.refl [8] V).put (by decide) _).put (by decide) _).put (by decide) _ j hj)
  obtain ⟨B₉, hl₉, x9, m9, F₁₈⟩ := F₁₇.finish (i1 := (8, 1)) (i2 := (8, 9)) (ws := [8]) (put_self _ _ _) (by dl_mem) (by decide) (by decide) (by decide) (by repeat (first | exact on3.trans on₆ | refine Only.put ?_ (by decide) _)) (fun i hi => hV i (by simpa using hi))
  refine h x _ tl _ B₉ s₁₆ (hle.trans (hl₃.trans (hl₅.trans (hl₅₈.trans hl₉)))) ⟨dx, es₄, k₄', At.ofB (hl₉ _ _ hxx₈), At.ofB x9, hk₄⟩ F₁₈
end

end
section
theorem del_other (V : Dyn) {i j : Nat × Nat} (h : j ≠ i) : (V.del i) j = V j := if_neg h
theorem Only.del {l : List Nat} {V V' : Dyn} (h : Only l V V') {i : Nat × Nat} (hi : i.1 ∈ l) : Only l V (V'.del i) := fun j hj => by
  rw [del_other _ (fun e => hj (by rw [e]; exact hi))]; exact h j hj
structure FnInfo where
  oc : Value
  od : Option Addr
  osl : Array (Option Value)
  nm : Str
  qual : Str
  params : Arguments
  body : List Stmt
  scope : Scope
  dV : Value
  kV : Value
  doc : Value
  pm : Value
  cdv : Value
  ct : Value
  an : Option Addr
def FnInfo.obj (i : FnInfo) : Obj := ⟨i.oc, i.od, .func (fnOf i.nm i.qual i.params i.body i.scope i.dV i.kV i.doc i.pm i.an i.cdv i.ct), i.osl⟩
def lawInfo (P : Params) : {i : FnInfo // List.lookup 435 (hd.heap_39 P) = some i.obj} := ⟨⟨_, _, _, _, _, _, _, _, _, _, _, _, _, _, _⟩, rfl⟩
abbrev lawB (P : Params) : List Stmt := (lawInfo P).1.body
abbrev lawEnv (P : Params) (L : Addr) : Env := envOfC (lawInfo P).1.qual (lawInfo P).1.scope L 435 (lawInfo P).1.cdv
theorem lookup_some_mem {α β : Type} [BEq α] [LawfulBEq α] {l : List (α × β)} {a : α} {b : β} (h : l.lookup a = some b) : (a, b) ∈ l := by
  induction l with
  | nil => cases h
  | cons p l ih =>
    obtain ⟨x, y⟩ := p
    rw [List.lookup_cons] at h
    cases e : a == x with
    | true => rw [e] at h; cases h; rw [eq_of_beq e]; exact List.mem_cons_self
    | false => rw [e] at h; exact List.mem_cons_of_mem _ (ih h)
section
variable {prog : Program} {w : World} {A : Around} {E : Value → Shared → Prop} {s₀ s : Shared} {R Z B : View} {V : Dyn} {L l : Addr} {m mg mb : Str → Option Value} {i : Nat × Nat} {n k : Nat} {o : Obj} {vs : List Value} {ns : List Int} {t t' : Tok} {z : Int}
theorem s_list (F : St s₀ R Z B V L m s) (ho : B l = some o) (hc : o.cls = .type "list") (hd : o.data = .seq vs.toArray n) : s.heap.IsList l vs.toArray := ⟨o, (F.b _ _ ho).1, hc, n, hd⟩
theorem l_len {Q : Value → Shared → Prop} (F : St s₀ R Z B V L m s) (hl : s.heap.IsList l vs.toArray) (hsz : vs.length ≤ 100000) (h : ∀ s' t, St s₀ R Z B V L m s' → Q (.int (vs.length : Int) t) s') :
    wpAny (model prog w) A (call (.builtin "len") [.ref l]) Q E s := by
  refine len_list hl (by simp; omega) ?_
  have := h _ (s.toks + 1) (F.toks (tk := s.toks + 1 + 1))
  simpa using this
theorem x_strF {env : Env} {x : Str} {kk : Nat} {pos : Pos} {Q : Value → Shared → Prop} (F : St s₀ R Z B V L m s) (h : ∀ s' t, St s₀ R Z B V L m s' → Q (.str x t) s') : wpAny (model prog w) A (eval (.Constant (.str x) kk pos) env) Q E s :=
  wpAny_Constant_str (h _ _ F.toks)
theorem c_at {Q : Value → Shared → Prop} (F : St s₀ R Z B V L m s) (Cc : Cx w mg mb Z) (hA : Lv 3 A) (ho : B l = some o) (hc : o.cls = .type "list") (hd : o.data = .seq vs.toArray n) (hI : IntsAre vs ns) (h63 : vs.length ≤ 63)
    (h : ∀ s' t, St s₀ R Z B V L m s' → Q (.int (ns.getD k z) t) s') : wpAny (model prog w) A (call (.ref 430) [.ref l, .int (k : Int) t, .int z t']) Q E s := by
  refine call_fn (binds := [("script", .ref l), ("k", .int (k : Int) t), ("other", .int z t')]) F Cc hA rfl (by kernel_rfl) (BindsTo.of_eq rfl) (locs rfl) (fun R' L' s' F' Cc' back => ?_)
  clear F
  repeat walk1
  refine l_len F' (s_list F' ho hc hd) (by omega) fun s₁ t₁ F₁ => ?_
  clear F'
  repeat' walk1
  · rename_i hlt
    have hk : k < vs.length := by omega
    have hv : vs[k]? = some vs[k] := List.getElem?_eq_getElem hk
    obtain ⟨u, hu⟩ := hI.int_at k _ hv
    refine item_list (k := (k : Int)) (s_list F₁ ho hc hd) (by omega) (by omega) (x := vs[k]) (by simpa using hv) ?_
    have hn := hI.length
    have e : ns.getD k 0 = ns.getD k z := by simp [List.getD, List.getElem?_eq_getElem (show k < ns.length by omega)]
    rw [hu, e]
    exact h _ _ (back _ _ _ _ F₁)
  · rename_i hlt
    have hn := hI.length
    have e : ns.getD k z = z := by simp [List.getD, List.getElem?_eq_none (show ns.length ≤ k by omega)]
    have := h _ t' (back _ _ _ _ F₁)
    rw [e] at this
    exact this
end

end
local macro_rules | `(tactic| walk_at "eval Name") => `(tactic| k_dflt (first
  | refine x_cellL (by with_reducible assumption) (by kby_int) (by dl_there) (by assumption) ?_
  | refine x_loc (by kby_int) (by dl_step) ?_
  | refine x_glob (by kby_int) (by assumption) (by kas_types) ?_
  | refine x_bi (by kby_int) (by assumption) (by kba_ints) (by kat_tups) (by decide) ?_
  | refine x_cellC (by rfl) (by kby_int) (by dl_there) (by assumption) ?_))
local macro_rules | `(tactic| walk_at "getAttr ref") => `(tactic| k_dflt (refine g_attr (by kby_int) (by assumption) (by kd_in) (by kbo_bools) (by rfl) (by rfl) ?_; intro s' F'))
local macro_rules | `(tactic| dl_mem) => `(tactic| ((with_reducible refine' (del_other _ ?hne).trans ?hh); (case hh => dl_mem); (case hne => decide)))
local macro_rules | `(tactic| walk_at "storeName") => `(tactic| k_dflt (first | (refine e_stC (by kby_int) (by with_reducible assumption) (by dl_mem) (by assumption) ?_; intro o' s' hd' F') | (refine e_st (by kby_int) ?_; intro s' F')))
local macro_rules | `(tactic| walk_at "And") => `(tactic| k_dflt (refine And.intro (by first | exact Cx.kin (by assumption) (St.toFz (by kby_int)) | exact (At.ofB (V := _) (by assumption)).get (St.toFz (by kby_int))) ?_))
local macro_rules | `(tactic| walk_at "exec Assign cons Tuple") => `(tactic| k_dflt (first | refine x_AssignTuple ?_ | refine Assign_Tuple_swapped ?_))
local macro_rules | `(tactic| walk_at "eval Constant str") => `(tactic| k_dflt (refine x_strF (by assumption) ?_; intro s' t' F'))
local macro_rules | `(tactic| walk_at "eval Constant str") => `(tactic| k_dflt (refine x_strF (by kby_int) ?_; intro s' t' F'))
local macro_rules | `(tactic| kby_int) => `(tactic| first | assumption | exact St.toks (by assumption) | exact St.toks (St.toks (by assumption)))
local macro_rules | `(tactic| walk_at "eval Constant int") => `(tactic| k_dflt (refine x_int (by kby_int) ?_; intro t' s' F'))
section
section
variable {prog : Program} {w : World} {A : Around} {E : Value → Shared → Prop} {s₀ s : Shared} {R Z B : View} {V : Dyn} {L l : Addr} {m mg mb : Str → Option Value} {i : Nat × Nat} {n k : Nat} {o : Obj} {vs : List Value} {ns : List Int} {t t' : Tok} {z : Int}
/-- a cell of the law at the role (11, j) -/
structure CellV (P : Params) (L : Addr) (V : Dyn) (j : Nat) (c : Addr) (nm : Str) (v : Option Value) : Prop where
  ex : ∃ o, V (11, j) = some (c, o) ∧ o.data = .cell v
  lk : (lawEnv P L).cells.lookup nm = some c
theorem Src.str {x : Str} (hA : A.handled = none) (ha : x.cps.all (· < 128) = true) : Src prog w A B V (.str x t) (fun _ _ => True) x.cps.size (SignAt x) := by
  intro s₀ s R Z L m E Q F h
  refine wpAny_pyIter_ascii ha ?_
  have W := Walks.strAscii (prog := prog) (w := w) hA s.heap.objs.size x t
  have hk : ∀ b o, s.heap.get? b = some o → (s.heap.push { cls := .type "str_ascii_iterator", data := .fields #[.str x t, .int 0 0] }).get? b = some o := fun b o e => Heap.get?_push_of_some _ e
  have ho := Heap.get?_push_size s.heap (o := { cls := .type "str_ascii_iterator", data := .fields #[.str x t, .int 0 0] }) rfl
  refine h _ _ (fun i h => h.IsStrIter s.heap.objs.size "str_ascii_iterator" x t i) _ _ ⟨W, (F.toFz.fresh (get_fresh _)).1, fun i h (st : Heap.IsStrIter _ _ _ _ _ _) => by
    obtain ⟨o, ho, hc, hd⟩ := st
    exact ⟨o, ho, _, _, hc, hd, by decide⟩, F.addR (tk := s.toks) (get_fresh _) hk ho, ⟨_, ho, rfl, rfl⟩, fun b hb hbi => absurd (by simpa using hb) hbi⟩
theorem n_listB {Q : Value → Shared → Prop} (F : St s₀ R Z B V L m s) (h : ∀ l s', B l = none → St s₀ R Z (B.put l (listO vs 0)) V L m s' → Q (.ref l) s') (hsz : vs.length ≤ sizeLine := by size_fits) : wpAny (model prog w) A (newList vs) Q E s :=
  wpAny_newList (h _ _ (F.fresh (get_fresh _)).2.1 (F.newB (get_fresh _) (fun _ _ e => Heap.get?_push_of_some _ e) (Heap.get?_push_size _ rfl))) hsz
def ClsIs (B : View) (c ti e : Addr) (j : Nat) : Prop := SInst B c 328 [(Str.ofString "type", .ref ti), (Str.ofString "args", .ref e)] ∧ B e = some (tupO []) ∧ ∃ t fs, SInst B ti 162 ((Str.ofString "fullname", .str (clsName j) t) :: fs)
theorem ClsIs.le {B B' : View} {c ti e : Addr} {j : Nat} (h : ClsIs B c ti e j) (hl : B.le B') : ClsIs B' c ti e j := ⟨h.1.le hl, hl _ _ h.2.1, let ⟨t, fs, i⟩ := h.2.2; ⟨t, fs, i.le hl⟩⟩
theorem none_put {V : Dyn} {r : Nat} (h : ∀ i, i.1 = r → V i = none) {j : Nat × Nat} {p : Addr × Obj} (hj : j.1 ≠ r) : ∀ i, i.1 = r → (V.put j p) i = none := fun i hi => by
  rw [put_other _ _ (fun e => hj (by rw [← e]; exact hi))]; exact h i hi
theorem cat_fun {α : Type} (a0 : α) {f : α → Value} {P : α → Nat → Prop} {n : Nat} {zs : List Value} (c : Cat (fun j zs => ∃ a, zs = [f a] ∧ P a j) n zs) : ∃ G : Nat → α, zs = (List.range n).map (fun j => f (G j)) ∧ ∀ j, j < n → P (G j) j := by
  induction c with
  | zero => exact ⟨fun _ => a0, rfl, fun j h => by omega⟩
  | @succ n ys zs _ o ih =>
    obtain ⟨G, h1, h2⟩ := ih
    obtain ⟨a, rfl, ha⟩ := o
    refine ⟨fun j => if j = n then a else G j, ?_, fun j hj => ?_⟩
    · rw [List.range_succ, List.map_append, h1]
      congr 1
      · exact List.map_congr_left fun j hj => by dsimp only; rw [if_neg (by have := List.mem_range.mp hj; omega)]
      · simp
    · dsimp only
      by_cases e : j = n
      · subst e; rw [if_pos rfl]; exact ha
      · rw [if_neg e]; exact h2 j (by omega)
set_option maxHeartbeats 4000000 in
theorem ph_A1 {Q : Flow → Shared → Prop} (F : St s₀ R Z B V L m s) (Cc : Cx w mg mb Z) (hA : Lv 30 A) (ho : B l = some o) (hc : o.cls = .type "list") (hd : o.data = .seq vs.toArray n) (hI : IntsAre vs ns) (h63 : vs.length ≤ 63)
    (hm : m (Str.ofString "script") = some (.ref l)) (hV8 : ∀ i, i.1 ∈ [8] → V i = none)
    (h : ∀ B' V' m' s' top clsl kc (G : Nat → Addr × Addr × Addr), B.le B' → Only [11, 14] V V' → (∀ j, j ≠ 12 → j ≠ 2 → V' (11, j) = V (11, j)) → CellV w.params L V' 12 (L + 1) (Str.ofString "top") (some (.ref top)) →
      CellV w.params L V' 2 (L + 1 + 1 + 1 + 1 + 1 + 1 + 1 + 1 + 1 + 1 + 1) (Str.ofString "classes") (some (.ref clsl)) → m' (Str.ofString "script") = some (.ref l) → B' clsl = some (listO ((List.range 3).map fun j => .ref (G j).1) kc) → (∀ j, j < 3 → ClsIs B' (G j).1 (G j).2.1 (G j).2.2 j) →
      St s₀ R Z B' V' L m' s' → wpAny (model prog w) A (execs ((lawB w.params).drop 3) (lawEnv w.params L)) Q E s')
    (c12 : CellV w.params L V 12 (L + 1) (Str.ofString "top") none) (c2 : CellV w.params L V 2 (L + 1 + 1 + 1 + 1 + 1 + 1 + 1 + 1 + 1 + 1 + 1) (Str.ofString "classes") none) :
    wpAny (model prog w) A (execs (lawB w.params) (lawEnv w.params L)) Q E s := by
  obtain ⟨⟨o12, v12, d12⟩, lk12⟩ := c12
  obtain ⟨⟨o2, v2, d2⟩, lk2⟩ := c2
  have lk12' := lk12
  have lk2' := lk2
  dsimp only [lawB, lawInfo, lawEnv] at lk12 lk2 ⊢
  repeat walk1
  refine n_listB (by assumption) fun l1 s₁ hb1 F₁ => ?_
  repeat walk1
  refine n_listB F₁ fun l2 s₂ hb2 F₂ => ?_
  have hl1 := vput_le (o := listO [] 0) hb1
  have hl2 := hl1.trans (vput_le (o := listO [] 0) hb2)
  repeat walk1
  refine c_TI0 F₂ Cc (by kd_p) (vput_le hb2 _ _ (vput_self _ _ _)) (vput_self _ _ _) (fun i hi => hV8 i (by simp [hi])) fun root d tl ml km B₃ s₃ hl₃ iroot hml F₃ => ?_
  have hl₀₃ := hl2.trans hl₃
  have hb₃ : B₃ l2 = some (listO [] 0) := hl₃ _ _ (vput_self _ _ _)
  clear F F₁ F₂ hl2 hl1 hl₃
  repeat walk1
  refine n_listB (by assumption) fun l3 s₄ hb4 F₄ => ?_
  clear F₃
  repeat walk1
  refine c_Inst F₄ Cc (by kd_p) (fun p => At.ofB (vput_self _ _ _)) fun top dt et es kt s₅ V₅ hb5 hb5' hb5'' on₅ hk₅ F₅ => ?_
  have F₆ := F₅.forget on₅ (fun i hi => hV8 i (by simpa using hi))
  have le6 := ((vput_le (o := listO [] 0) hb4).trans (vput_le (o := instObj 328 dt) hb5)).trans ((vput_le (o := tupO []) hb5').trans (vput_le (o := dictOf es kt) hb5''))
  have itop : SInst ((((B₃.put l3 (listO [] 0)).put top (instObj 328 dt)).put et (tupO [])).put dt (dictOf es kt)) top 328 [(Str.ofString "type", .ref root), (Str.ofString "args", .ref et)] :=
    ⟨dt, es, kt, At.ofB (vput_le hb5'' _ _ (vput_le hb5' _ _ (vput_self _ _ _))), At.ofB (vput_self _ _ _), hk₅⟩
  generalize ((((B₃.put l3 (listO [] 0)).put top (instObj 328 dt)).put et (tupO [])).put dt (dictOf es kt)) = B₆ at F₆ le6 itop
  replace iroot := iroot.le le6
  replace hml := le6 _ _ hml
  replace hb₃ := le6 _ _ hb₃
  have hl₀₆ := hl₀₃.trans le6
  clear F₅ F₄ on₅ hk₅ hb5 hb5' hb5'' hb4 le6 hl₀₃
  repeat walk1
  rename_i o12' s₅' d12' F₆' s₆ t₆ F₇
  clear F₆'
  clear F₆
  have hV8a : ∀ i, i.1 = 8 → V i = none := fun i hi => hV8 i (by simp [hi])
  have Cc₆ := Cc.le (F₇.z)
  refine lc_none (i := (14, 1)) (Out := fun B' j zs => ∃ a : Addr × Addr × Addr, zs = [.ref a.1] ∧ ClsIs B' a.1 a.2.1 a.2.2 j) (by assumption) (Src.str hA.h (by decide +kernel)) (loop1 (fun _ => True) (by decide +kernel) Cc₆ (fun B' D ys n hl => trivial) (fun B' B'' j zs hl ⟨a, h, h'⟩ => ⟨a, h, h'.le hl⟩) trivial ?_) ?_
  · intro C Dd j v ys nn R₁ B₁ m₁ s₇ hj hP hl _ _ Cc₁ F₈
    obtain ⟨c, u, hcu, rfl⟩ := hP
    have iroot₁ := iroot.le hl
    have itop₁ := itop.le hl
    have hml₁ := hl _ _ hml
    have hb₁ := hl _ _ hb₃
    clear F₇
    repeat walk1
    rename_i s₈ u₁ F₉ u₂ k₉ a₉
    clear a₉
    refine n_listB (by first | assumption | exact St.toks (by assumption)) fun l4 s₉ hb4 F₁₀ => ?_
    repeat walk1
    refine n_listB (by first | assumption | exact St.toks (by assumption)) fun l5 s₁₀ hb5 F₁₁ => ?_
    repeat walk1
    have hl4 := vput_le (o := listO [] 0) hb4
    have hl5 := vput_le (o := listO [.ref top] 0) hb5
    have hl45 := hl4.trans hl5
    have hcn : (Str.ofString "m." ++ ({ cps := #[c] } : Str)) = clsName j := by
      have h0 : (Str.ofString "ABC").cps = #[65, 66, 67] := by decide +kernel
      have hm0 : (Str.ofString "m.").cps = #[109, 46] := by decide +kernel
      rw [h0] at hcu hj
      match j, hj, hcu with
      | 0, _, hcu => simp at hcu; subst hcu; decide +kernel
      | 1, _, hcu => simp at hcu; subst hcu; decide +kernel
      | 2, _, hcu => simp at hcu; subst hcu; decide +kernel
      | n + 3, h, _ => simp at h; omega
    refine c_TI1 F₁₁ Cc₁ (by kd_p) (hl5 _ _ (vput_self _ _ _)) (vput_self _ _ _) (itop₁.le hl45) (iroot₁.le hl45) (hl45 _ _ hb₁) (hl45 _ _ hml₁) (none_put (none_put hV8a (by decide)) (by decide)) fun ti d2 tl2 ml2 B₂ s₁₁ hl₂ iti F₁₂ => ?_
    clear F₉ F₁₀ F₁₁ F₈
    repeat walk1
    refine n_listB (by first | assumption | exact St.toks (by assumption)) fun l6 s₁₂ hb6 F₁₃ => ?_
    clear F₁₂
    repeat walk1
    refine c_Inst F₁₃ Cc₁ (by kd_p) (fun p => At.ofB (vput_self _ _ _)) fun cl dt et es kt s₁₃ V₅ hb7 hb7' hb7'' on₅ hk₅ F₁₄ => ?_
    have F₁₅ := F₁₄.forget on₅ (fun i hi => none_put (none_put hV8a (by decide)) (by decide) i (by simpa using hi))
    clear F₁₃ F₁₄
    have le6 := vput_le (o := listO [] 0) hb6
    have le7 := (vput_le (o := instObj 328 dt) hb7).trans ((vput_le (o := tupO []) hb7').trans (vput_le (o := dictOf es kt) hb7''))
    exact Leaf.mk ⟨_, _, hl45.trans (hl₂.trans (le6.trans le7)), ⟨⟨cl, ti, et⟩, rfl, ⟨dt, es, kt, At.ofB (vput_le hb7'' _ _ (vput_le hb7' _ _ (vput_self _ _ _))), At.ofB (vput_self _ _ _), hk₅⟩, vput_le hb7'' _ _ (vput_self _ _ _), _, _, hcn ▸ (iti.le le6).le le7⟩, trivial, F₁₅⟩
  intro clsl B₇ zs kc s₇ hl₇ hcat F₈
  have h3 : (Str.ofString "ABC").cps.size = 3 := by decide +kernel
  rw [h3] at hcat
  obtain ⟨G, rfl, hG⟩ := cat_fun (0, 0, 0) hcat
  have hb₈ : B₇ clsl = none := (F₈.v _ _ _ (put_self _ _ _)).2.2
  have F₉ := F₈.settle (put_self _ _ _)
  have hl₉ := vput_le (o := listO (List.map (fun j => Value.ref (G j).1) (List.range 3)) kc) hb₈
  have hcl₉ : (B₇.put clsl (listO (List.map (fun j => Value.ref (G j).1) (List.range 3)) kc)) clsl = some (listO (List.map (fun j => Value.ref (G j).1) (List.range 3)) kc) := vput_self _ _ _
  generalize B₇.put clsl (listO (List.map (fun j => Value.ref (G j).1) (List.range 3)) kc) = B₉ at F₉ hl₉ hcl₉
  replace hG : ∀ j, j < 3 → ClsIs B₉ (G j).1 (G j).2.1 (G j).2.2 j := fun j hj => (hG j hj).le hl₉
  have hl₀₉ := hl₀₆.trans (hl₇.trans hl₉)
  have ho₉ := hl₀₉ _ _ ho
  replace itop := itop.le (hl₇.trans hl₉)
  clear F₇ F₈ hcat h3 Cc₆
  walk1
  rename_i oc2 s₈ d2' F₁₀
  dsimp only
  refine h B₉ _ _ s₈ top clsl kc G hl₀₉ (by repeat (first | exact Only.refl _ _ | refine Only.put ?_ (by decide) _ | refine Only.del ?_ (by decide))) (fun j h1 h2 => ?_) ⟨⟨o12', by dl_mem, d12'⟩, lk12'⟩ ⟨⟨oc2, put_self _ _ _, d2'⟩, lk2'⟩ ?_ hcl₉ hG F₁₀
  · rw [put_other _ _ (by simpa using h2), del_other _ (by simp), put_other _ _ (by simp), put_other _ _ (by simpa using h1)]
  · exact (if_neg (by decide)).trans hm
end

end
section
section
variable {prog : Program} {w : World} {A : Around} {E : Value → Shared → Prop} {s₀ s : Shared} {R Z B : View} {V : Dyn} {L l top : Addr} {m mg mb : Str → Option Value} {i : Nat × Nat} {n k : Nat} {o : Obj} {vs : List Value} {ns : List Int} {t t' : Tok} {z : Int}
abbrev rangeO (n : Nat) (t u v : Tok) : Obj := { cls := .type "range", dict := none, data := .fields #[.int 0 t, .int (n : Int) u, .int 1 v], slots := #[] }
theorem c_range {N : Nat} {Q : Value → Shared → Prop} (F : St s₀ R Z B V L m s) (hz : z = (N : Int)) (h : ∀ r s' t u v, B r = none → St s₀ R Z (B.put r (rangeO N t u v)) V L m s' → Q (.ref r) s') : wpAny (model prog w) A (call (.type "range") [.int z t]) Q E s := by
  subst hz
  exact call_range_1 (h _ _ _ _ _ (F.fresh (get_fresh _)).2.1 (F.newB (get_fresh _) (fun _ _ e => Heap.get?_push_of_some _ e) (Heap.get?_push_size _ rfl)))
/-- the size that the law draws -/
def sizeOf (ns : List Int) : Nat := (1 + (ns.getD 0 3).fmod 5).toNat
theorem sizeOf_eq (ns : List Int) : 1 + (ns.getD 0 3).fmod 5 = (sizeOf ns : Int) := by
  unfold sizeOf
  have := Int.fmod_nonneg_of_pos (ns.getD 0 3) (show (0:Int) < 5 by omega)
  omega
theorem sizeOf_le (ns : List Int) : 1 ≤ sizeOf ns ∧ sizeOf ns ≤ 5 := by
  have h := sizeOf_eq ns
  have h1 := Int.fmod_nonneg_of_pos (ns.getD 0 3) (show (0:Int) < 5 by omega)
  have h2 := Int.fmod_lt_of_pos (ns.getD 0 3) (show (0:Int) < 5 by omega)
  omega
/-- a variable with its id -/
def VarIs (B : View) (v i : Addr) (j : Nat) : Prop := IsId B i j ∧ ∃ nm up vs va, SInst B v 288 [(Str.ofString "name", nm), (Str.ofString "id", .ref i), (Str.ofString "upper_bound", up), (Str.ofString "values", vs), (Str.ofString "variance", va)]
theorem VarIs.le {B B' : View} {v i : Addr} {j : Nat} (h : VarIs B v i j) (hl : B.le B') : VarIs B' v i j := ⟨h.1.le hl, let ⟨a, b, c, d, e⟩ := h.2; ⟨a, b, c, d, e.le hl⟩⟩
set_option maxHeartbeats 4000000 in
theorem ph_A2 {Q : Flow → Shared → Prop} (F : St s₀ R Z B V L m s) (Cc : Cx w mg mb Z) (hA : Lv 30 A) (ho : B l = some o) (hc : o.cls = .type "list") (hd : o.data = .seq vs.toArray n) (hI : IntsAre vs ns) (h63 : vs.length ≤ 63)
    (hm : m (Str.ofString "script") = some (.ref l)) (hV8 : ∀ i, i.1 ∈ [8] → V i = none)
    (h : ∀ B' V' m' s' va kv (G : Nat → Addr × Addr), B.le B' → Only [11, 14] V V' → (∀ j, j ≠ 11 → j ≠ 0 → V' (11, j) = V (11, j)) → (∃ t, CellV w.params L V' 11 (L + 1 + 1) (Str.ofString "size") (some (.int (1 + (ns.getD 0 3).fmod 5) t))) →
      CellV w.params L V' 0 (L + 1 + 1 + 1 + 1 + 1 + 1 + 1 + 1 + 1 + 1 + 1 + 1 + 1) (Str.ofString "variables") (some (.ref va)) → m' (Str.ofString "script") = some (.ref l) → B' va = some (listO ((List.range (sizeOf ns)).map fun j => .ref (G j).1) kv) → (∀ j, j < sizeOf ns → VarIs B' (G j).1 (G j).2 j) →
      St s₀ R Z B' V' L m' s' → wpAny (model prog w) A (execs ((lawB w.params).drop 5) (lawEnv w.params L)) Q E s')
    (c12 : CellV w.params L V 12 (L + 1) (Str.ofString "top") (some (.ref top))) (c11 : CellV w.params L V 11 (L + 1 + 1) (Str.ofString "size") none) (c0 : CellV w.params L V 0 (L + 1 + 1 + 1 + 1 + 1 + 1 + 1 + 1 + 1 + 1 + 1 + 1 + 1) (Str.ofString "variables") none) :
    wpAny (model prog w) A (execs ((lawB w.params).drop 3) (lawEnv w.params L)) Q E s := by
  have lk12 := c12.lk
  have lk11 := c11.lk
  have lk0 := c0.lk
  obtain ⟨o12, v12, d12⟩ := c12.ex
  obtain ⟨o11, v11, d11⟩ := c11.ex
  obtain ⟨o0, v0, d0⟩ := c0.ex
  clear c12 c11 c0
  have lk12' := lk12
  have lk11' := lk11
  have lk0' := lk0
  dsimp only [lawB, lawInfo, lawEnv, List.drop] at lk12 lk11 lk0 ⊢
  repeat walk1
  refine c_at (k := 0) (by kby_int) Cc (by kd_p) ho hc hd hI h63 fun s₁ t₁ F₁ => ?_
  clear F
  repeat walk1
  rename_i u₁ s₂ F₂ o11' s₃ d11' F₃
  clear F₁ F₂
  refine c_range (by kby_int) (sizeOf_eq ns) fun ra s₄ u₂ u₃ u₄ hbr F₄ => ?_
  have hlr := vput_le (o := rangeO (sizeOf ns) u₂ u₃ u₄) hbr
  have hra : (B.put ra (rangeO (sizeOf ns) u₂ u₃ u₄)) ra = some (rangeO (sizeOf ns) u₂ u₃ u₄) := vput_self _ _ _
  generalize B.put ra (rangeO (sizeOf ns) u₂ u₃ u₄) = B₄ at F₄ hlr hra
  have hV8a : ∀ i, i.1 = 8 → V i = none := fun i hi => hV8 i (by simp [hi])
  have hN := sizeOf_le ns
  have CcB := Cc.le F₄.z
  clear Cc F₃
  repeat walk1
  refine lc_none (i := (14, 1)) (Out := fun B' j zs => ∃ a : Addr × Addr, zs = [.ref a.1] ∧ VarIs B' a.1 a.2 j) F₄ (Src.range hA.h hra (by omega)) (loop1 (fun _ => True) (by simp [sizeLine]; omega) CcB (fun B' D ys n hl => trivial) (fun B' B'' j zs hl ⟨a, h, h'⟩ => ⟨a, h, h'.le hl⟩) trivial ?_) ?_
  · intro C Dd j v ys nn R₁ B₁ m₁ s₇ hj hP hl _ _ Cc₁ F₈
    obtain ⟨u, rfl⟩ := hP
    clear CcB
    clear F₄
    have hj5 : j < 5 := by omega
    repeat walk1
    refine c_Id (k := j) (by kby_int) Cc₁ (by kd_p) fun x dx es kk s₈ V₅ hbx hbd on₅ hk₅ F₉ => ?_
    have F₁₀ := F₉.forget on₅ (fun i hi => none_put (none_put hV8a (by decide)) (by decide) i (by simpa using hi))
    have le1 := (vput_le (o := instObj 245 dx) hbx).trans (vput_le (o := dictOf es kk) hbd)
    have hid : IsId ((B₁.put x (instObj 245 dx)).put dx (dictOf es kk)) x j := ⟨_, _, dx, es, kk, At.ofB (vput_le hbd _ _ (vput_self _ _ _)), At.ofB (vput_self _ _ _), hk₅⟩
    generalize (B₁.put x (instObj 245 dx)).put dx (dictOf es kk) = B₂ at F₁₀ le1 hid
    clear F₈ F₉
    repeat walk1
    refine n_listB (by kby_int) fun l6 s₁₂ hb6 F₁₁ => ?_
    clear F₁₀
    repeat walk1
    refine c_Var (by kby_int) Cc₁ (by kd_p) fun y dy es' kk' s₈ V₆ hby hbd' on₆ hk₆ F₁₂ => ?_
    have F₁₃ := F₁₂.forget on₆ (fun i hi => none_put (none_put hV8a (by decide)) (by decide) i (by simpa using hi))
    have le2 := (vput_le (o := listO [] 0) hb6).trans ((vput_le (o := instObj 288 dy) hby).trans (vput_le (o := dictOf es' kk') hbd'))
    exact Leaf.mk ⟨_, _, le1.trans le2, ⟨⟨y, x⟩, rfl, hid.le le2, _, _, _, _, dy, es', kk', At.ofB (vput_le hbd' _ _ (vput_self _ _ _)), At.ofB (vput_self _ _ _), hk₆⟩, trivial, F₁₃⟩
  intro va B₇ zs kc s₇ hl₇ hcat F₈
  obtain ⟨G, rfl, hG⟩ := cat_fun (0, 0) hcat
  have hb₈ : B₇ va = none := (F₈.v _ _ _ (put_self _ _ _)).2.2
  have F₉ := F₈.settle (put_self _ _ _)
  have hl₉ := vput_le (o := listO (List.map (fun j => Value.ref (G j).1) (List.range (sizeOf ns))) kc) hb₈
  have hva₉ : (B₇.put va (listO (List.map (fun j => Value.ref (G j).1) (List.range (sizeOf ns))) kc)) va = some (listO (List.map (fun j => Value.ref (G j).1) (List.range (sizeOf ns))) kc) := vput_self _ _ _
  generalize B₇.put va (listO (List.map (fun j => Value.ref (G j).1) (List.range (sizeOf ns))) kc) = B₉ at F₉ hl₉ hva₉
  clear F₄ F₈ hcat CcB
  walk1
  rename_i o0' s₈ d0' F₁₀
  dsimp only
  refine h B₉ _ _ s₈ va kc G ((hlr.trans hl₇).trans hl₉) (by repeat (first | exact Only.refl _ _ | refine Only.put ?_ (by decide) _ | refine Only.del ?_ (by decide))) (fun j h1 h2 => ?_) ⟨_, ⟨o11', by dl_mem, d11'⟩, lk11'⟩ ⟨⟨o0', put_self _ _ _, d0'⟩, lk0'⟩ hm hva₉ (fun j hj => (hG j hj).le hl₉) F₁₀
  rw [put_other _ _ (by simpa using h2), del_other _ (by simp), put_other _ _ (by simp), put_other _ _ (by simpa using h1)]
end

end
section
section
variable {prog : Program} {w : World} {A : Around} {E : Value → Shared → Prop} {s₀ s : Shared} {R Z B : View} {V : Dyn} {L t : Addr} {m mg mb : Str → Option Value} {env : Env} {e1 e2 e3 e4 value : Expr} {x1 : Nat} {tp pos : Pos} {v1 v2 v3 v4 : Value}
theorem unpack4 {Q : Unit → Shared → Prop} (F : St s₀ R Z B V L m s) (hh : A.handled = none) (ht : B t = some (tupO [v1, v2, v3, v4]))
    (h : ∀ s', St s₀ R Z B V L m s' → wpAny (model prog w) A (assign e1 env v1) (fun _ s₁ => wpAny (model prog w) A (assign e2 env v2) (fun _ s₂ => wpAny (model prog w) A (assign e3 env v3) (fun _ s₃ => wpAny (model prog w) A (assign e4 env v4) Q E s₃) E s₂) E s₁) E s')
    (he : assignEach [e1, e2, e3, e4] env = [(false, assign e1 env), (false, assign e2 env), (false, assign e3 env), (false, assign e4 env)] := by rfl) :
    wpAny (model prog w) A (assign (.Tuple [e1, e2, e3, e4] x1 tp) env (.ref t)) Q E s := by
  refine PySem.wpAny_assign_Tuple (items := #[v1, v2, v3, v4]) hh ⟨_, (F.b _ _ ht).1, rfl, _, rfl⟩ (by rw [he]; rfl) (by rw [he]; rfl) fun h' hk => ?_
  have F' : St s₀ R Z B V L m { s with heap := h' } := F.keep (tk := s.toks) fun b o e => hk b o (fun q => by rw [q, get_fresh] at e; cases e) e
  rw [he]
  show wpAny _ _ (assignInOrder [assign e1 env, assign e2 env, assign e3 env, assign e4 env] [v1, v2, v3, v4]) _ _ _
  unfold assignInOrder
  refine wpAny_bind (wpAny_holding (wpAny_mono (h _ F') (fun _ s₁ h₁ => ?_) fun _ _ e => e))
  refine wpAny_assignInOrder_more (wpAny_mono h₁ (fun _ s₂ h₂ => ?_) fun _ _ e => e)
  refine wpAny_assignInOrder_more (wpAny_mono h₂ (fun _ s₃ h₃ => ?_) fun _ _ e => e)
  exact wpAny_assignInOrder_more (wpAny_mono h₃ (fun _ s₄ h₄ => wpAny_assignInOrder_none h₄) fun _ _ e => e)
theorem un3 {Q : List Value → Shared → Prop} (F : St s₀ R Z B V L m s) (hh : A.handled = none) (ht : B t = some (tupO [v1, v2, v3])) (h : ∀ s', St s₀ R Z B V L m s' → Q [v1, v2, v3] s') : wpAny (model prog w) A (unpackItems (.ref t) 3 none) Q E s :=
  unpackItems_tuple (items := #[v1, v2, v3]) hh ⟨_, (F.b _ _ ht).1, rfl, _, rfl⟩ fun h' hk => h _ (F.keep (tk := s.toks) fun b o e => hk b o (fun q => by rw [q, get_fresh] at e; cases e) e)
theorem n_int3 {a b c : Int} {t1 t2 t3 : Tok} {Q : List Value → Shared → Prop} (F : St s₀ R Z B V L m s) (hh : A.handled = none) (h : ∀ B' s' (u1 u2 u3 : Tok), B.le B' → St s₀ R Z B' V L m s' → Q [.int a u1, .int b u2, .int c u3] s') :
    wpAny (model prog w) A (newTuple [.int a t1, .int b t2, .int c t3]) (fun v s₁ => wpAny (model prog w) A (unpackItems v 3 none) Q E s₁) E s :=
  n_tup F fun _ _ hbt F₁ => un3 F₁ hh (vput_self _ _ _) fun _ F₂ => h _ _ _ _ _ (vput_le hbt) F₂
theorem n_int2 {a b : Int} {t1 t2 : Tok} {Q : Value → Shared → Prop} (F : St s₀ R Z B V L m s) (h : ∀ t B' s', B.le B' → (∃ u u', B' t = some (tupO [.int a u, .int b u'])) → St s₀ R Z B' V L m s' → Q (.ref t) s') :
    wpAny (model prog w) A (newTuple [.int a t1, .int b t2]) Q E s :=
  n_tup F fun _ _ hbt F₁ => h _ _ _ (vput_le hbt) ⟨_, _, vput_self _ _ _⟩ F₁
theorem un2 {Q : List Value → Shared → Prop} (F : St s₀ R Z B V L m s) (hh : A.handled = none) (ht : B t = some (tupO [v1, v2])) (h : ∀ s', St s₀ R Z B V L m s' → Q [v1, v2] s') : wpAny (model prog w) A (unpackItems (.ref t) 2 none) Q E s :=
  unpackItems_tuple (items := #[v1, v2]) hh ⟨_, (F.b _ _ ht).1, rfl, _, rfl⟩ fun h' hk => h _ (F.keep (tk := s.toks) fun b o e => hk b o (fun q => by rw [q, get_fresh] at e; cases e) e)
theorem bind3 {y1 y2 y3 : Str} {Q : Unit → Shared → Prop} (F : St s₀ R Z B V L m s) (h : ∀ s', St s₀ R Z B V L (fun y => if y = y3 then some v3 else if y = y2 then some v2 else if y = y1 then some v1 else m y) s' → Q () s')
    (hL : env.locals = L := by rfl) (hk : env.scope.kind = .function := by rfl) (h1 : env.kindOf y1 = some .local := by rfl) (h2 : env.kindOf y2 = some .local := by rfl) (h3 : env.kindOf y3 = some .local := by rfl) :
    wpAny (model prog w) A (assignInOrder [bindName env y1, bindName env y2, bindName env y3] [v1, v2, v3]) Q E s := by
  unfold assignInOrder
  refine wpAny_bind (wpAny_holding (bindName_ (e_st F (fun s₁ F₁ => ?_) hL hk h1)))
  refine wpAny_assignInOrder_more (bindName_ (e_st F₁ (fun s₂ F₂ => ?_) hL hk h2))
  refine wpAny_assignInOrder_more (bindName_ (e_st F₂ (fun s₃ F₃ => ?_) hL hk h3))
  exact wpAny_assignInOrder_none (h _ F₃)
theorem bind2 {y1 y2 : Str} {Q : Unit → Shared → Prop} (F : St s₀ R Z B V L m s) (h : ∀ s', St s₀ R Z B V L (fun y => if y = y2 then some v2 else if y = y1 then some v1 else m y) s' → Q () s')
    (hL : env.locals = L := by rfl) (hk : env.scope.kind = .function := by rfl) (h1 : env.kindOf y1 = some .local := by rfl) (h2 : env.kindOf y2 = some .local := by rfl) :
    wpAny (model prog w) A (assignInOrder [bindName env y1, bindName env y2] [v1, v2]) Q E s := by
  unfold assignInOrder
  refine wpAny_bind (wpAny_holding (bindName_ (e_st F (fun s₁ F₁ => ?_) hL hk h1)))
  refine wpAny_assignInOrder_more (bindName_ (e_st F₁ (fun s₂ F₂ => ?_) hL hk h2))
  exact wpAny_assignInOrder_none (h _ F₂)
end

end
section
/-- the numbers that the law reads -/
def numsOf (ns : List Int) : List Int := if 2 < ns.length then (ns.drop 2).take 8 else [4, 13, 7, 26]
def oneOf (N : Nat) (z : Int) : Nat := ((z.fdiv 4).fmod (N : Int)).toNat
def supOf (z : Int) : Bool := z.fmod 2 == 1
def varOf (z : Int) : Bool := (z.fdiv 2).fmod 2 == 0
def restOfZ (N : Nat) (z : Int) : Int := (z.fdiv 4).fdiv (N : Int)
def conOf (N : Nat) (z : Int) : Con := (oneOf N z, supOf z, varOf z, if varOf z then ((restOfZ N z).fmod (N : Int)).toNat else ((restOfZ N z).fmod 3).toNat)
def prOf (c : Con) : Pr := if c.2.1 then (c.2.2.2, c.1) else (c.1, c.2.2.2)
def pairsL (cons : List Con) : List Pr := (cons.filter fun c => c.2.2.1).map prOf
def lowsL (cons : List Con) : List Pr := (cons.filter fun c => !c.2.2.1 && c.2.1).map fun c => (c.1, c.2.2.2)
def highsL (cons : List Con) : List Pr := (cons.filter fun c => !c.2.2.1 && !c.2.1).map fun c => (c.1, c.2.2.2)
theorem numsOf_len (ns : List Int) : (numsOf ns).length ≤ 8 := by
  unfold numsOf
  split
  · simp; omega
  · decide
theorem pairsL_snoc (l : List Con) (c : Con) : pairsL (l ++ [c]) = pairsL l ++ (if c.2.2.1 = true then [prOf c] else []) := by
  unfold pairsL
  rw [List.filter_append, List.map_append]
  congr 1
  by_cases h : c.2.2.1 = true <;> simp [h]
theorem lowsL_snoc (l : List Con) (c : Con) : lowsL (l ++ [c]) = lowsL l ++ (if (!c.2.2.1 && c.2.1) = true then [(c.1, c.2.2.2)] else []) := by
  unfold lowsL
  rw [List.filter_append, List.map_append]
  congr 1
  cases h1 : c.2.2.1 <;> cases h2 : c.2.1 <;> simp [h1, h2]
theorem highsL_snoc (l : List Con) (c : Con) : highsL (l ++ [c]) = highsL l ++ (if (!c.2.2.1 && !c.2.1) = true then [(c.1, c.2.2.2)] else []) := by
  unfold highsL
  rw [List.filter_append, List.map_append]
  congr 1
  cases h1 : c.2.2.1 <;> cases h2 : c.2.1 <;> simp [h1, h2]
theorem map_getElem? {α : Type} (f : Nat → α) {n j : Nat} (h : j < n) : ((List.range n).map f)[j]? = some (f j) := by
  rw [List.getElem?_map, List.getElem?_range h]; rfl
/-- a list of pairs of small numbers -/
def TupL (B : View) (T : List (Addr × Pr)) : Prop := ∀ p ∈ T, ∃ t t', B p.1 = some (tupO [.int (p.2.1 : Int) t, .int (p.2.2 : Int) t'])
theorem TupL.le {B B' : View} {T} (h : TupL B T) (hl : B.le B') : TupL B' T := fun p hp => let ⟨t, t', e⟩ := h p hp; ⟨t, t', hl _ _ e⟩
structure TupAt (B : View) (V : Dyn) (i : Nat × Nat) (a : Addr) (l : List Pr) : Prop where
  ex : ∃ (T : List (Addr × Pr)) (k : Nat), V i = some (a, listO (T.map aval) k) ∧ TupL B T ∧ T.map (·.2) = l
theorem TupAt.snoc {B B' : View} {V' : Dyn} {i : Nat × Nat} {a t : Addr} {T : List (Addr × Pr)} {k : Nat} {p : Pr} {u u' : Tok} (hT : TupL B T) (hl : B.le B') (ht : B' t = some (tupO [.int (p.1 : Int) u, .int (p.2 : Int) u'])) (hv : V' i = some (a, listO (T.map aval ++ [.ref t]) k)) : TupAt B' V' i a (T.map (·.2) ++ [p]) :=
  ⟨T ++ [(t, p)], k, by rw [List.map_append]; exact hv, fun q hq => by
    rcases List.mem_append.mp hq with h | h
    · exact (hT.le hl) q h
    · simp at h; subst h; exact ⟨_, _, ht⟩, by simp⟩
section
variable {prog : Program} {w : World} {A : Around} {E : Value → Shared → Prop} {s₀ s : Shared} {R Z B : View} {V : Dyn} {L l va ca : Addr} {m mg mb : Str → Option Value} {i : Nat × Nat} {n k kv kc : Nat} {o : Obj} {vs : List Value} {ns : List Int} {t t' : Tok} {z : Int} {D : Dom}
theorem l_sub {value slice : Expr} {y : Value} {ws : List Value} {j kk : Nat} {u : Tok} {Q : Value → Shared → Prop} (F : St s₀ R Z B V L m s) (hv : At B V l (listO ws kk)) (hj : ws[j]? = some y) (hsz : j < 1000000) (h : Q y s)
    (hs : subscripted slice false (.ref l) (.int (j : Int) u) = operate [.ref l, .int (j : Int) u] (getItem (.ref l) (.int (j : Int) u)) := by with_unfolding_all rfl) (hg : ∀ r, letTemporaryGo value (.ref l) r = pure () := by intro _; with_unfolding_all rfl) :
    wpAny (model prog w) A (subscriptTail value slice (.ref l) (.int (j : Int) u)) Q E s :=
  item_list (items := ws.toArray) ⟨_, hv.get F.toFz, rfl, kk, rfl⟩ (by omega) (by omega) (by simpa using hj) h hs hg
theorem subT {value slice : Expr} {oV iV : Value} {T id : String} {ops : List Value} {Q : Value → Shared → Prop} (hT : s.TypeIs oV T)
    (hl : typeLookup (.type T) "__getitem__" = pure (some (.builtin id))) (h : wpAny (model prog w) A (getItem oV iV) Q E s)
    (hs : subscripted slice false oV iV = operate ops (getItem oV iV)) : wpAny (model prog w) A (subscriptTail value slice oV iV) Q E s := by
  unfold subscriptTail
  refine wpAny_bind ?_
  rw [getitemInPython_of_ne hT.not_modules]
  refine wpAny_bind (wpAny_specialOf hT hl ?_)
  have fin : wpAny (model prog w) A (subscripted slice false oV iV) (fun r s₃ => wpAny (model prog w) A (letTemporaryGo value oV r >>= fun _ => pure r) Q E s₃) E s := by
    rw [hs]
    exact wpAny_operating (wpAny_mono h (fun r s₃ h₃ => wpAny_bind (wpAny_letTemporaryGo (wpAny_pure h₃))) fun _ _ x => x)
  first
    | exact wpAny_pure (wpAny_bind fin)
    | exact wpAny_bind fin
    | exact fin
theorem l_subT {value slice : Expr} {y : Value} {ws : List Value} {j kk : Nat} {u : Tok} {Q : Value → Shared → Prop} (F : St s₀ R Z B V L m s) (hv : At B V l (listO ws kk)) (hj : ws[j]? = some y) (hsz : j < 1000000) (h : Q y s)
    (hs : subscripted slice false (.ref l) (.int (j : Int) u) = operate [.ref l, .int (j : Int) u] (getItem (.ref l) (.int (j : Int) u)) := by with_unfolding_all rfl) :
    wpAny (model prog w) A (subscriptTail value slice (.ref l) (.int (j : Int) u)) Q E s :=
  have hl : s.heap.IsList l ws.toArray := ⟨_, hv.get F.toFz, rfl, kk, rfl⟩
  subT hl.typeIs slot_list_getitem.lookup (wpAny_getItem_list hl (by omega) (by omega) (by simpa using hj) h) hs
structure ConsAt (D : Dom) (B : View) (V : Dyn) (a : Addr) (l : List Con) : Prop where
  ex : ∃ (C : List (Addr × Con)) (k : Nat), V (13, 0) = some (a, listO (C.map aval) k) ∧ (∀ p ∈ C, IsCon D B p.1 p.2) ∧ C.map (·.2) = l
set_option maxHeartbeats 4000000 in
theorem ph_B {Q : Flow → Shared → Prop} (F : St s₀ R Z B V L m s) (Cc : Cx w mg mb Z) (hA : Lv 30 A) (ho : B l = some o) (hc : o.cls = .type "list") (hd : o.data = .seq vs.toArray n) (hI : IntsAre vs ns) (h63 : vs.length ≤ 63)
    (hm : m (Str.ofString "script") = some (.ref l)) (hV8 : ∀ i, i.1 ∈ [8] → V i = none) (hD : DomOK D B) (hDn : D.n = sizeOf ns)
    (h : ∀ B' V' m' s' (C : List (Addr × Con)) lc lp ll lh k0, B.le B' → Only [8, 11, 13] V V' → (∀ j, j ≠ 9 → j ≠ 8 → V' (11, j) = V (11, j)) → CellV w.params L V' 9 (L + 1 + 1 + 1 + 1) (Str.ofString "lows") (some (.ref ll)) → CellV w.params L V' 8 (L + 1 + 1 + 1 + 1 + 1) (Str.ofString "highs") (some (.ref lh)) →
      m' (Str.ofString "script") = some (.ref l) → m' (Str.ofString "constraints") = some (.ref lc) → m' (Str.ofString "pairs") = some (.ref lp) → V' (13, 0) = some (lc, listO (C.map aval) k0) → (∀ p ∈ C, IsCon D B' p.1 p.2) → C.map (·.2) = (numsOf ns).map (conOf D.n) →
      TupAt B' V' (13, 1) lp (pairsL ((numsOf ns).map (conOf D.n))) → TupAt B' V' (13, 2) ll (lowsL ((numsOf ns).map (conOf D.n))) → TupAt B' V' (13, 3) lh (highsL ((numsOf ns).map (conOf D.n))) → St s₀ R Z B' V' L m' s' →
      wpAny (model prog w) A (execs ((lawB w.params).drop 7) (lawEnv w.params L)) Q E s')
    (c11 : CellV w.params L V 11 (L + 1 + 1) (Str.ofString "size") (some (.int (1 + (ns.getD 0 3).fmod 5) t)))
    (c9 : CellV w.params L V 9 (L + 1 + 1 + 1 + 1) (Str.ofString "lows") none) (c8 : CellV w.params L V 8 (L + 1 + 1 + 1 + 1 + 1) (Str.ofString "highs") none)
    (c2 : CellV w.params L V 2 (L + 1 + 1 + 1 + 1 + 1 + 1 + 1 + 1 + 1 + 1 + 1) (Str.ofString "classes") (some (.ref ca)))
    (c0 : CellV w.params L V 0 (L + 1 + 1 + 1 + 1 + 1 + 1 + 1 + 1 + 1 + 1 + 1 + 1 + 1) (Str.ofString "variables") (some (.ref va)))
    (hva : B va = some (listO ((List.range D.n).map fun j => .ref (D.var j)) kv)) (hca : B ca = some (listO ((List.range 3).map fun j => .ref (D.cls j)) kc)) :
    wpAny (model prog w) A (execs ((lawB w.params).drop 5) (lawEnv w.params L)) Q E s := by
  have lk11 := c11.lk
  have lk9 := c9.lk
  have lk8 := c8.lk
  have lk2 := c2.lk
  have lk0 := c0.lk
  obtain ⟨o11, v11, d11⟩ := c11.ex
  obtain ⟨o9, v9, d9⟩ := c9.ex
  obtain ⟨o8, v8, d8⟩ := c8.ex
  obtain ⟨o2, v2, d2⟩ := c2.ex
  obtain ⟨o0, v0, d0⟩ := c0.ex
  clear c11 c9 c8 c2 c0
  have lk9' := lk9
  have lk8' := lk8
  dsimp only [lawB, lawInfo, lawEnv, List.drop] at lk11 lk9 lk8 lk2 lk0 ⊢
  walk1
  walk1
  repeat walk1
  refine n_list (13, 0) F fun lc s₁ hb1 F₁ => ?_
  repeat walk1
  refine n_list (13, 1) F₁ fun lp s₂ hb2 F₂ => ?_
  repeat walk1
  refine n_list (13, 2) F₂ fun ll s₃ hb3 F₃ => ?_
  repeat walk1
  refine n_list (13, 3) F₃ fun lh s₄ hb4 F₄ => ?_
  clear F F₁ F₂ F₃
  walk1
  walk1
  rename_i tq s₅ hb5 F₅
  clear F₄
  have hl5 := vput_le (o := tupO [Value.ref lc, Value.ref lp, Value.ref ll, Value.ref lh]) hb5
  refine unpack4 F₅ hA.h (vput_self _ _ _) fun s₆ F₆ => ?_
  generalize B.put tq (tupO [Value.ref lc, Value.ref lp, Value.ref ll, Value.ref lh]) = B₅ at F₆ hl5
  clear F₅
  repeat walk1
  refine wpAny_For ?_
  rename_i o9' s₇' d9' F₇' o8' s₇ d8' F₇
  clear F₆ F₇'
  have on7 : Only [11, 13] V ((((((V.put (13, 0) (lc, listO [] 0)).put (13, 1) (lp, listO [] 0)).put (13, 2) (ll, listO [] 0)).put (13, 3) (lh, listO [] 0)).put (11, 9) (L + 1 + 1 + 1 + 1, o9')).put (11, 8) (L + 1 + 1 + 1 + 1 + 1, o8')) := by repeat (first | exact Only.refl _ _ | refine Only.put ?_ (by decide) _)
  have ot7 : ∀ j, j ≠ 9 → j ≠ 8 → ((((((V.put (13, 0) (lc, listO [] 0)).put (13, 1) (lp, listO [] 0)).put (13, 2) (ll, listO [] 0)).put (13, 3) (lh, listO [] 0)).put (11, 9) (L + 1 + 1 + 1 + 1, o9')).put (11, 8) (L + 1 + 1 + 1 + 1 + 1, o8')) (11, j) = V (11, j) := fun j h1 h2 => by
    rw [put_other _ _ (by simpa using h2), put_other _ _ (by simpa using h1), put_other _ _ (by simp), put_other _ _ (by simp), put_other _ _ (by simp), put_other _ _ (by simp)]
  have vc : ((((((V.put (13, 0) (lc, listO [] 0)).put (13, 1) (lp, listO [] 0)).put (13, 2) (ll, listO [] 0)).put (13, 3) (lh, listO [] 0)).put (11, 9) (L + 1 + 1 + 1 + 1, o9')).put (11, 8) (L + 1 + 1 + 1 + 1 + 1, o8')) (13, 0) = some (lc, listO [] 0) := by dl_mem
  have vp : ((((((V.put (13, 0) (lc, listO [] 0)).put (13, 1) (lp, listO [] 0)).put (13, 2) (ll, listO [] 0)).put (13, 3) (lh, listO [] 0)).put (11, 9) (L + 1 + 1 + 1 + 1, o9')).put (11, 8) (L + 1 + 1 + 1 + 1 + 1, o8')) (13, 1) = some (lp, listO [] 0) := by dl_mem
  have vl : ((((((V.put (13, 0) (lc, listO [] 0)).put (13, 1) (lp, listO [] 0)).put (13, 2) (ll, listO [] 0)).put (13, 3) (lh, listO [] 0)).put (11, 9) (L + 1 + 1 + 1 + 1, o9')).put (11, 8) (L + 1 + 1 + 1 + 1 + 1, o8')) (13, 2) = some (ll, listO [] 0) := by dl_mem
  have vh : ((((((V.put (13, 0) (lc, listO [] 0)).put (13, 1) (lp, listO [] 0)).put (13, 2) (ll, listO [] 0)).put (13, 3) (lh, listO [] 0)).put (11, 9) (L + 1 + 1 + 1 + 1, o9')).put (11, 8) (L + 1 + 1 + 1 + 1 + 1, o8')) (13, 3) = some (lh, listO [] 0) := by dl_mem
  have v9' : ((((((V.put (13, 0) (lc, listO [] 0)).put (13, 1) (lp, listO [] 0)).put (13, 2) (ll, listO [] 0)).put (13, 3) (lh, listO [] 0)).put (11, 9) (L + 1 + 1 + 1 + 1, o9')).put (11, 8) (L + 1 + 1 + 1 + 1 + 1, o8')) (11, 9) = some (L + 1 + 1 + 1 + 1, o9') := by dl_mem
  have v8' : ((((((V.put (13, 0) (lc, listO [] 0)).put (13, 1) (lp, listO [] 0)).put (13, 2) (ll, listO [] 0)).put (13, 3) (lh, listO [] 0)).put (11, 9) (L + 1 + 1 + 1 + 1, o9')).put (11, 8) (L + 1 + 1 + 1 + 1 + 1, o8')) (11, 8) = some (L + 1 + 1 + 1 + 1 + 1, o8') := by dl_mem
  generalize ((((((V.put (13, 0) (lc, listO [] 0)).put (13, 1) (lp, listO [] 0)).put (13, 2) (ll, listO [] 0)).put (13, 3) (lh, listO [] 0)).put (11, 9) (L + 1 + 1 + 1 + 1, o9')).put (11, 8) (L + 1 + 1 + 1 + 1 + 1, o8')) = V₇ at F₇ on7 ot7 vc vp vl vh v9' v8'
  have v11' := (ot7 11 (by decide) (by decide)).trans v11
  have v2' := (ot7 2 (by decide) (by decide)).trans v2
  have v0' := (ot7 0 (by decide) (by decide)).trans v0
  have ho₅ := hl5 _ _ ho
  clear v9 v8 v11 v2 v0
  refine wpAny_mono (Q := fun v s' => ∃ B' nl nk vs', B₅.le B' ∧ v = .ref nl ∧ B' nl = some (listO vs' nk) ∧ IntsAre vs' (numsOf ns) ∧ St s₀ R Z B' V₇ L (fun y => if y = Str.ofString "pairs" then some (Value.ref lp) else if y = Str.ofString "constraints" then some (Value.ref lc) else m y) s') ?_ ?_ (fun _ _ e => e)
  · walk1
    repeat walk1
    refine l_len F₇ (s_list F₇ ho₅ hc hd) (by omega) fun s₈ t₈ F₈ => ?_
    clear F₇
    repeat' walk1
    · rename_i hgt u₁ s₉ F₉ u₂ s₁₀ F₁₀
      have hn := hI.length
      refine PyProof.Rows.slice_listK (lo := some 2) (hi := some 10) (s_list F₁₀ ho₅ hc hd) (.int _ _) (.int _ _) ?_ (hsz := Nat.le_trans (by simpa using h63) (by decide +kernel : 63 ≤ sizeLine))
      have F₁₁ : St s₀ R Z B₅ V₇ L _ { s₁₀ with heap := s₁₀.heap.push { cls := .type "slice", data := .fields #[.int 2 u₁, .int 10 u₂, .none] }, toks := s₁₀.toks } := F₁₀.keep fun _ _ e => Heap.get?_push_of_some _ e
      have n2 := get_fresh (s₁₀.heap.push { cls := .type "slice", data := .fields #[.int 2 u₁, .int 10 u₂, .none] })
      rw [Heap.size_push] at n2
      have F₁₂ := F₁₁.newB (tk := s₁₀.toks) (o := { cls := .type "list", data := .seq (slicePick vs.toArray (some 2) (some 10) none) }) n2 (fun _ _ e => Heap.get?_push_of_some _ e) (by rw [← Heap.size_push]; exact Heap.get?_push_size _ rfl)
      have hx := PyProof.Rows.slice_ints_plain hI 2 10
      have e2 := clipAt_nat ns.length 2
      have e10 := clipAt_nat ns.length 10
      have e : (ns.drop (clipAt ns.length 2)).take (clipAt ns.length 10 - clipAt ns.length 2) = numsOf ns := by
        unfold numsOf
        rw [if_pos (by omega)]
        rw [show clipAt ns.length 2 = min 2 ns.length from e2, show clipAt ns.length 10 = min 10 ns.length from e10, show min 2 ns.length = 2 by omega]
        by_cases h10 : 10 ≤ ns.length
        · rw [show min 10 ns.length = 10 by omega]
        · rw [List.take_of_length_le (by simp; omega), List.take_of_length_le (by simp; omega)]
      rw [e] at hx
      exact ⟨_, _, 0, (slicePick vs.toArray (some 2) (some 10) none).toList, vput_le (F₁₁.fresh n2).2.1, rfl, by rw [vput_self], hx, F₁₂⟩
    · rename_i hgt u₁ s₉ F₉ u₂ s₁₀ F₁₀ u₃ s₁₁ F₁₁ u₄ s₁₂ F₁₂
      have hn := hI.length
      refine n_listB F₁₂ fun nl s₁₃ hbn F₁₃ => ⟨_, nl, 0, _, vput_le hbn, rfl, vput_self _ _ _, ?_, F₁₃⟩
      have e : numsOf ns = [4, 13, 7, 26] := by unfold numsOf; rw [if_neg (by omega)]
      rw [e]
      exact IntsAre.cons _ _ (IntsAre.cons _ _ (IntsAre.cons _ _ (IntsAre.cons _ _ IntsAre.nil)))
  rintro v s₈ ⟨B₈, nl, nk, ws, hl₈, rfl, hnl, hW, F₈⟩
  clear F₇
  have hl₀₈ := hl5.trans hl₈
  have hD₈ := hD.le hl₀₈
  have hn1 := hD.n1
  have hn5 := hD.n5
  have hsz : 1 + (ns.getD 0 3).fmod 5 = (D.n : Int) := by rw [sizeOf_eq, hDn]
  rw [hsz] at d11
  have hva₈ := hl₀₈ _ _ hva
  have hca₈ := hl₀₈ _ _ hca
  have hwl := hW.length
  have hw8 := numsOf_len ns
  refine for_src (fun i B' V' m' => B₈.le B' ∧ Only [8, 13] V₇ V' ∧ ConsAt D B' V' lc (((numsOf ns).take i).map (conOf D.n)) ∧ TupAt B' V' (13, 1) lp (pairsL (((numsOf ns).take i).map (conOf D.n))) ∧ TupAt B' V' (13, 2) ll (lowsL (((numsOf ns).take i).map (conOf D.n))) ∧ TupAt B' V' (13, 3) lh (highsL (((numsOf ns).take i).map (conOf D.n))) ∧
      m' (Str.ofString "script") = some (.ref l) ∧ m' (Str.ofString "constraints") = some (.ref lc) ∧ m' (Str.ofString "pairs") = some (.ref lp))
    F₈ (Src.list hA.h (At.ofB hnl)) ⟨View.le.refl _, Only.refl _ _, ⟨[], 0, vc, by simp, rfl⟩, ⟨[], 0, vp, by simp [TupL], rfl⟩, ⟨[], 0, vl, by simp [TupL], rfl⟩, ⟨[], 0, vh, by simp [TupL], rfl⟩, by dl_step, by dl_step, by dl_step⟩ ?_ ?_ ?_
  · rintro i B' V' m' ⟨hl, _⟩ _
    exact At.ofB (hl _ _ hnl)
  · rintro i v R₂ B₂ V₂ m₂ s₉ hi hP hl₂ ⟨_, on₂, ⟨C, kC, vC, hC, eC⟩, ⟨T1, k1, vT1, hT1, eT1⟩, ⟨T2, k2, vT2, hT2, eT2⟩, ⟨T3, k3, vT3, hT3, eT3⟩, hm1, hm2, hm3⟩ F₉
    obtain ⟨u, rfl⟩ := hW.int_at i v hP
    have htk : (numsOf ns).take (i + 1) = (numsOf ns).take i ++ [(numsOf ns).getD i 0] := by
      rw [List.take_add_one, List.getD_eq_getElem?_getD, List.getElem?_eq_getElem (by omega)]; rfl
    generalize (numsOf ns).getD i 0 = z at htk hP ⊢
    have hD₂ := hD₈.le hl₂
    have hva₂ := hl₂ _ _ hva₈
    have hca₂ := hl₂ _ _ hca₈
    have v11'' := (on₂ _ (by decide)).trans v11'
    have v9'' := (on₂ _ (by decide)).trans v9'
    have v8'' := (on₂ _ (by decide)).trans v8'
    have v2'' := (on₂ _ (by decide)).trans v2'
    have v0'' := (on₂ _ (by decide)).trans v0'
    clear F₈
    repeat walk1
    have e1 : (z.fdiv 4).fmod (D.n : Int) = ((oneOf D.n z : Nat) : Int) := by
      unfold oneOf
      have := Int.fmod_nonneg_of_pos (z.fdiv 4) (show (0 : Int) < D.n by omega)
      omega
    have h1n : oneOf D.n z < D.n := by
      have := Int.fmod_lt_of_pos (z.fdiv 4) (show (0 : Int) < D.n by omega)
      omega
    rw [e1]
    refine n_int3 (by kby_int) hA.h fun B₁₀ s₁₀ u1 u2 u3 hl₁₀ F₁₁ => ?_
    refine bind3 F₁₁ fun s₁₂ F₁₂ => ?_
    clear F₁₁ F₉
    repeat walk1
    · rename_i u₄ s₁₃ F₁₃ hvar s₁₄ F₁₄
      clear F₁₃ F₁₂
      have hvz : varOf z = true := by unfold varOf; rw [hvar]; rfl
      have e4 : ((z.fdiv 4).fdiv (D.n : Int)).fmod (D.n : Int) = ((((restOfZ D.n z).fmod (D.n : Int)).toNat : Nat) : Int) := by
        unfold restOfZ
        have := Int.fmod_nonneg_of_pos ((z.fdiv 4).fdiv (D.n : Int)) (show (0 : Int) < D.n by omega)
        omega
      have h4n : ((restOfZ D.n z).fmod (D.n : Int)).toNat < D.n := by
        unfold restOfZ
        have := Int.fmod_nonneg_of_pos ((z.fdiv 4).fdiv (D.n : Int)) (show (0 : Int) < D.n by omega)
        have := Int.fmod_lt_of_pos ((z.fdiv 4).fdiv (D.n : Int)) (show (0 : Int) < D.n by omega)
        omega
      have ec : conOf D.n z = (oneOf D.n z, supOf z, true, ((restOfZ D.n z).fmod (D.n : Int)).toNat) := by unfold conOf; rw [hvz]; rfl
      generalize ((restOfZ D.n z).fmod (D.n : Int)).toNat = oth at e4 h4n ec
      have e5 : z.fmod 2 = (((if supOf z = true then 1 else 0 : Nat)) : Int) := by
        unfold supOf
        have h1 := Int.fmod_nonneg_of_pos z (show (0 : Int) < 2 by omega)
        have h2 := Int.fmod_lt_of_pos z (show (0 : Int) < 2 by omega)
        by_cases h : z.fmod 2 = 1
        · simp [h]
        · have h0 : z.fmod 2 = 0 := by omega
          simp [h0]
      rw [e4, e5] at F₁₄
      have hva10 := hl₁₀ _ _ hva₂
      obtain ⟨_, _, _, _, ivar⟩ := (hD₂.le hl₁₀).var _ h1n
      refine l_sub F₁₄ (At.ofB hva10) (map_getElem? _ h1n) (by omega) ?_
      repeat walk1
      refine n_listB (by kby_int) fun lo s₁₅ hblo F₁₅ => ?_
      have hll := vput_le (o := listO [Value.int 0 196, Value.int 1 198] 0) hblo
      repeat walk1
      refine l_subT F₁₅ (At.ofB (vput_self _ _ _)) (y := .int (if supOf z = true then 1 else 0) (if supOf z = true then 198 else 196)) (by cases supOf z <;> rfl) (by split <;> omega) ?_
      repeat walk1
      refine l_sub F₁₅ (At.ofB (hll _ _ hva10)) (map_getElem? _ h4n) (by omega) ?_
      repeat walk1
      refine c_Constraint F₁₅ Cc (by kd_p) (ivar.le hll) fun x dx es kx s₁₆ V₁₆ hbx hbd on₁₆ hkx F₁₆ => ?_
      have hlx := (vput_le (o := instObj 45 dx) hbx).trans (vput_le (o := dictOf es kx) hbd)
      have icon : IsCon D (((B₁₀.put lo (listO [Value.int 0 196, Value.int 1 198] 0)).put x (instObj 45 dx)).put dx (dictOf es kx)) x (conOf D.n z) := by
        rw [ec]
        exact ⟨⟨h1n, fun _ => h4n, fun h => absurd h (by simp)⟩, _, dx, es, kx, At.ofB (vput_le hbd _ _ (vput_self _ _ _)), At.ofB (vput_self _ _ _), hkx⟩
      have hl₁₆ := hl₁₀.trans (hll.trans hlx)
      generalize ((B₁₀.put lo (listO [Value.int 0 196, Value.int 1 198] 0)).put x (instObj 45 dx)).put dx (dictOf es kx) = B₁₆ at F₁₆ icon hl₁₆
      have vC₁₆ := (on₁₆ (13, 0) (by decide)).trans vC
      have vT₁₆ := (on₁₆ (13, 1) (by decide)).trans vT1
      have vT2₁₆ := (on₁₆ (13, 2) (by decide)).trans vT2
      have vT3₁₆ := (on₁₆ (13, 3) (by decide)).trans vT3
      have on2₁₆ : Only [8, 13] V₂ V₁₆ := on₁₆.mono (by decide)
      have hTl : (T1.map aval).length ≤ sizeLine := by
        have h1 := congrArg List.length eT1
        have h2 : (pairsL (List.map (conOf D.n) (List.take i (numsOf ns)))).length ≤ 8 := by
          unfold pairsL; rw [List.length_map]; exact Nat.le_trans (List.length_filter_le _ _) (by rw [List.length_map]; exact Nat.le_trans (List.length_take_le' _ _) hw8)
        rw [List.length_map] at h1 ⊢; rw [sizeLine_eq]; omega
      have hCl : (C.map aval).length ≤ sizeLine := by
        have h1 := congrArg List.length eC
        rw [List.length_map, List.length_map] at h1
        have h2 := List.length_take_le' i (numsOf ns)
        rw [List.length_map, sizeLine_eq]; omega
      clear F₁₄ F₁₅ hlx hll hbx hbd hkx hblo on₁₆ ivar
      repeat' walk1
      · rename_i hs0 tt sa hbt Fa sb Fb
        have hsup : supOf z = false := by cases h : supOf z <;> first | rfl | (rw [h] at hs0; simp at hs0)
        have hlt := vput_le (o := tupO [Value.int ((oneOf D.n z : Nat) : Int) u1, Value.int ((oth : Nat) : Int) s₁₃.toks]) hbt
        have hl₁₇ := hl₁₆.trans hlt
        refine BodyEnd.next ⟨_, _, _, hl₁₇, ⟨hl₂.trans hl₁₇, by repeat (first | exact on₂.trans on2₁₆ | refine Only.put ?_ (by decide) _), ⟨C ++ [(x, conOf D.n z)], kC + 1, ?_, fun p hp => ?_, ?_⟩, ?_, ?_, ?_, by dl_step, by dl_step, by dl_step⟩, Fb⟩
        · rw [List.map_append]; exact (put_other _ _ (by decide)).trans (put_self _ _ _)
        · rcases List.mem_append.mp hp with h | h
          · exact (hC p h).le hl₁₇
          · simp at h; subst h; exact icon.le hlt
        · rw [htk, List.map_append, List.map_append, eC]; rfl
        · rw [htk, List.map_append, List.map_singleton, pairsL_snoc, ← eT1, ec]
          simp only [if_true, prOf, hsup, Bool.false_eq_true, if_false]
          exact TupAt.snoc hT1 hl₁₇ (vput_self _ _ _) (put_self _ _ _)
        · rw [htk, List.map_append, List.map_singleton, lowsL_snoc, ec]
          simp only [Bool.not_true, Bool.false_and, Bool.false_eq_true, if_false, List.append_nil]
          exact ⟨T2, k2, (put_other _ _ (by decide)).trans ((put_other _ _ (by decide)).trans vT2₁₆), hT2.le hl₁₇, eT2⟩
        · rw [htk, List.map_append, List.map_singleton, highsL_snoc, ec]
          simp only [Bool.not_true, Bool.false_and, Bool.false_eq_true, if_false, List.append_nil]
          exact ⟨T3, k3, (put_other _ _ (by decide)).trans ((put_other _ _ (by decide)).trans vT3₁₆), hT3.le hl₁₇, eT3⟩
      · rename_i hs0 tt sa hbt Fa sb Fb
        have hsup : supOf z = true := by cases h : supOf z <;> first | rfl | (rw [h] at hs0; simp at hs0)
        have hlt := vput_le (o := tupO [Value.int ((oth : Nat) : Int) s₁₃.toks, Value.int ((oneOf D.n z : Nat) : Int) u1]) hbt
        have hl₁₇ := hl₁₆.trans hlt
        refine BodyEnd.next ⟨_, _, _, hl₁₇, ⟨hl₂.trans hl₁₇, by repeat (first | exact on₂.trans on2₁₆ | refine Only.put ?_ (by decide) _), ⟨C ++ [(x, conOf D.n z)], kC + 1, ?_, fun p hp => ?_, ?_⟩, ?_, ?_, ?_, by dl_step, by dl_step, by dl_step⟩, Fb⟩
        · rw [List.map_append]; exact (put_other _ _ (by decide)).trans (put_self _ _ _)
        · rcases List.mem_append.mp hp with h | h
          · exact (hC p h).le hl₁₇
          · simp at h; subst h; exact icon.le hlt
        · rw [htk, List.map_append, List.map_append, eC]; rfl
        · rw [htk, List.map_append, List.map_singleton, pairsL_snoc, ← eT1, ec]
          simp only [if_true, prOf, hsup, Bool.false_eq_true, if_false]
          exact TupAt.snoc hT1 hl₁₇ (vput_self _ _ _) (put_self _ _ _)
        · rw [htk, List.map_append, List.map_singleton, lowsL_snoc, ec]
          simp only [Bool.not_true, Bool.false_and, Bool.false_eq_true, if_false, List.append_nil]
          exact ⟨T2, k2, (put_other _ _ (by decide)).trans ((put_other _ _ (by decide)).trans vT2₁₆), hT2.le hl₁₇, eT2⟩
        · rw [htk, List.map_append, List.map_singleton, highsL_snoc, ec]
          simp only [Bool.not_true, Bool.false_and, Bool.false_eq_true, if_false, List.append_nil]
          exact ⟨T3, k3, (put_other _ _ (by decide)).trans ((put_other _ _ (by decide)).trans vT3₁₆), hT3.le hl₁₇, eT3⟩
    · rename_i s₁₃ F₁₃ u₄ s₁₄ F₁₄ hvar
      clear F₁₃ F₁₂
      have hvz : varOf z = false := by unfold varOf; simpa using hvar
      have e4 : ((z.fdiv 4).fdiv (D.n : Int)).fmod 3 = ((((restOfZ D.n z).fmod 3).toNat : Nat) : Int) := by
        unfold restOfZ
        have := Int.fmod_nonneg_of_pos ((z.fdiv 4).fdiv (D.n : Int)) (show (0 : Int) < 3 by omega)
        omega
      have h4n : ((restOfZ D.n z).fmod 3).toNat < 3 := by
        unfold restOfZ
        have := Int.fmod_nonneg_of_pos ((z.fdiv 4).fdiv (D.n : Int)) (show (0 : Int) < 3 by omega)
        have := Int.fmod_lt_of_pos ((z.fdiv 4).fdiv (D.n : Int)) (show (0 : Int) < 3 by omega)
        omega
      have ec : conOf D.n z = (oneOf D.n z, supOf z, false, ((restOfZ D.n z).fmod 3).toNat) := by unfold conOf; rw [hvz]; rfl
      generalize ((restOfZ D.n z).fmod 3).toNat = oth at e4 h4n ec
      have e5 : z.fmod 2 = (((if supOf z = true then 1 else 0 : Nat)) : Int) := by
        unfold supOf
        have h1 := Int.fmod_nonneg_of_pos z (show (0 : Int) < 2 by omega)
        have h2 := Int.fmod_lt_of_pos z (show (0 : Int) < 2 by omega)
        by_cases h : z.fmod 2 = 1
        · simp [h]
        · have h0 : z.fmod 2 = 0 := by omega
          simp [h0]
      rw [e5] at F₁₄
      have hva10 := hl₁₀ _ _ hva₂
      have hca10 := hl₁₀ _ _ hca₂
      obtain ⟨_, _, _, _, ivar⟩ := (hD₂.le hl₁₀).var _ h1n
      repeat walk1
      refine l_sub F₁₄ (At.ofB hva10) (map_getElem? _ h1n) (by omega) ?_
      repeat walk1
      refine n_listB (by kby_int) fun lo s₁₅ hblo F₁₅ => ?_
      have hll := vput_le (o := listO [Value.int 0 196, Value.int 1 198] 0) hblo
      repeat walk1
      refine l_subT F₁₅ (At.ofB (vput_self _ _ _)) (y := .int (if supOf z = true then 1 else 0) (if supOf z = true then 198 else 196)) (by cases supOf z <;> rfl) (by split <;> omega) ?_
      repeat walk1
      rw [e4]
      refine l_sub (by kby_int) (At.ofB (hll _ _ hca10)) (map_getElem? _ h4n) (by omega) ?_
      repeat walk1
      refine c_Constraint (by kby_int) Cc (by kd_p) (ivar.le hll) fun x dx es kx s₁₆ V₁₆ hbx hbd on₁₆ hkx F₁₆ => ?_
      have hlx := (vput_le (o := instObj 45 dx) hbx).trans (vput_le (o := dictOf es kx) hbd)
      have icon : IsCon D (((B₁₀.put lo (listO [Value.int 0 196, Value.int 1 198] 0)).put x (instObj 45 dx)).put dx (dictOf es kx)) x (conOf D.n z) := by
        rw [ec]
        exact ⟨⟨h1n, fun h => absurd h (by simp), fun _ => h4n⟩, _, dx, es, kx, At.ofB (vput_le hbd _ _ (vput_self _ _ _)), At.ofB (vput_self _ _ _), hkx⟩
      have hl₁₆ := hl₁₀.trans (hll.trans hlx)
      generalize ((B₁₀.put lo (listO [Value.int 0 196, Value.int 1 198] 0)).put x (instObj 45 dx)).put dx (dictOf es kx) = B₁₆ at F₁₆ icon hl₁₆
      have vC₁₆ := (on₁₆ (13, 0) (by decide)).trans vC
      have vT1₁₆ := (on₁₆ (13, 1) (by decide)).trans vT1
      have vT2₁₆ := (on₁₆ (13, 2) (by decide)).trans vT2
      have vT3₁₆ := (on₁₆ (13, 3) (by decide)).trans vT3
      have v9₁₆ := (on₁₆ _ (by decide)).trans v9''
      have v8₁₆ := (on₁₆ _ (by decide)).trans v8''
      have on2₁₆ : Only [8, 13] V₂ V₁₆ := on₁₆.mono (by decide)
      have hTl2 : (T2.map aval).length ≤ sizeLine := by
        have h1 := congrArg List.length eT2
        have h2 : (lowsL (List.map (conOf D.n) (List.take i (numsOf ns)))).length ≤ 8 := by
          unfold lowsL; rw [List.length_map]; exact Nat.le_trans (List.length_filter_le _ _) (by rw [List.length_map]; exact Nat.le_trans (List.length_take_le' _ _) hw8)
        rw [List.length_map] at h1 ⊢; rw [sizeLine_eq]; omega
      have hTl3 : (T3.map aval).length ≤ sizeLine := by
        have h1 := congrArg List.length eT3
        have h2 : (highsL (List.map (conOf D.n) (List.take i (numsOf ns)))).length ≤ 8 := by
          unfold highsL; rw [List.length_map]; exact Nat.le_trans (List.length_filter_le _ _) (by rw [List.length_map]; exact Nat.le_trans (List.length_take_le' _ _) hw8)
        rw [List.length_map] at h1 ⊢; rw [sizeLine_eq]; omega
      have hCl : (C.map aval).length ≤ sizeLine := by
        have h1 := congrArg List.length eC
        rw [List.length_map, List.length_map] at h1
        have h2 := List.length_take_le' i (numsOf ns)
        rw [List.length_map, sizeLine_eq]; omega
      clear F₁₄ F₁₅ hlx hll hbx hbd hkx hblo on₁₆ ivar
      repeat walk1
      rename_i s₁₇ F₁₇
      refine n_listB F₁₇ fun lq s₁₈ hbq F₁₈ => ?_
      have hlq := vput_le (o := listO [Value.ref lh, Value.ref ll] 0) hbq
      repeat walk1
      refine l_subT F₁₈ (At.ofB (vput_self _ _ _)) (y := .ref (if supOf z = true then ll else lh)) (by cases supOf z <;> rfl) (by split <;> omega) ?_
      generalize B₁₆.put lq (listO [Value.ref lh, Value.ref ll] 0) = B₁₈ at F₁₈ hlq
      clear F₁₇
      cases hsup : supOf z
      all_goals (simp only [Bool.false_eq_true, if_false, if_true])
      all_goals repeat walk1
      --STOP2
      · rw [e4]
        refine n_int2 (by kby_int) fun tt B₁₉ sa hbt ⟨ua, ub, htt⟩ Fa => ?_
        repeat walk1
        rename_i sb Fb
        have hl₁₈ := hl₁₆.trans hlq
        have hl₁₉ := hl₁₈.trans hbt
        refine BodyEnd.next ⟨_, _, _, hl₁₉, ⟨hl₂.trans hl₁₉, by repeat (first | exact on₂.trans on2₁₆ | refine Only.put ?_ (by decide) _), ⟨C ++ [(x, conOf D.n z)], kC + 1, ?_, fun p hp => ?_, ?_⟩, ?_, ?_, ?_, by dl_step, by dl_step, by dl_step⟩, Fb⟩
        · rw [List.map_append]; exact (put_other _ _ (by decide)).trans (put_self _ _ _)
        · rcases List.mem_append.mp hp with h | h
          · exact (hC p h).le hl₁₉
          · simp at h; subst h; exact (icon.le hlq).le hbt
        · rw [htk, List.map_append, List.map_append, eC]; rfl
        · rw [htk, List.map_append, List.map_singleton, pairsL_snoc, ec]
          simp only [Bool.false_eq_true, if_false, List.append_nil]
          exact ⟨T1, k1, (put_other _ _ (by decide)).trans ((put_other _ _ (by decide)).trans vT1₁₆), hT1.le hl₁₉, eT1⟩
        · rw [htk, List.map_append, List.map_singleton, lowsL_snoc, ec]
          simp only [Bool.not_false, Bool.true_and, hsup, if_true, Bool.false_eq_true, if_false, List.append_nil]
          exact ⟨T2, k2, (put_other _ _ (by decide)).trans ((put_other _ _ (by decide)).trans vT2₁₆), hT2.le hl₁₉, eT2⟩
        · rw [htk, List.map_append, List.map_singleton, highsL_snoc, ← eT3, ec]
          simp only [Bool.not_false, Bool.true_and, hsup, Bool.not_true, if_true, Bool.false_eq_true, if_false, List.append_nil]
          exact TupAt.snoc hT3 hl₁₉ htt (put_self _ _ _)
      · rw [e4]
        refine n_int2 (by kby_int) fun tt B₁₉ sa hbt ⟨ua, ub, htt⟩ Fa => ?_
        repeat walk1
        rename_i sb Fb
        have hl₁₈ := hl₁₆.trans hlq
        have hl₁₉ := hl₁₈.trans hbt
        refine BodyEnd.next ⟨_, _, _, hl₁₉, ⟨hl₂.trans hl₁₉, by repeat (first | exact on₂.trans on2₁₆ | refine Only.put ?_ (by decide) _), ⟨C ++ [(x, conOf D.n z)], kC + 1, ?_, fun p hp => ?_, ?_⟩, ?_, ?_, ?_, by dl_step, by dl_step, by dl_step⟩, Fb⟩
        · rw [List.map_append]; exact (put_other _ _ (by decide)).trans (put_self _ _ _)
        · rcases List.mem_append.mp hp with h | h
          · exact (hC p h).le hl₁₉
          · simp at h; subst h; exact (icon.le hlq).le hbt
        · rw [htk, List.map_append, List.map_append, eC]; rfl
        · rw [htk, List.map_append, List.map_singleton, pairsL_snoc, ec]
          simp only [Bool.false_eq_true, if_false, List.append_nil]
          exact ⟨T1, k1, (put_other _ _ (by decide)).trans ((put_other _ _ (by decide)).trans vT1₁₆), hT1.le hl₁₉, eT1⟩
        · rw [htk, List.map_append, List.map_singleton, lowsL_snoc, ← eT2, ec]
          simp only [Bool.not_false, Bool.true_and, hsup, if_true, Bool.false_eq_true, if_false, List.append_nil]
          exact TupAt.snoc hT2 hl₁₉ htt (put_self _ _ _)
        · rw [htk, List.map_append, List.map_singleton, highsL_snoc, ec]
          simp only [Bool.not_false, Bool.true_and, hsup, Bool.not_true, if_true, Bool.false_eq_true, if_false, List.append_nil]
          exact ⟨T3, k3, (put_other _ _ (by decide)).trans ((put_other _ _ (by decide)).trans vT3₁₆), hT3.le hl₁₉, eT3⟩
  rintro B₉ V₉ m₉ s₉ hl₉ ⟨_, on₉, ⟨C, kC, vC, hC, eC⟩, hT1, hT2, hT3, hm1, hm2, hm3⟩ F₉
  rw [List.take_of_length_le (by omega)] at eC hT1 hT2 hT3
  clear F₈
  dsimp only
  refine h B₉ V₉ m₉ s₉ C lc lp ll lh kC (hl₀₈.trans hl₉) ((on7.mono (by decide)).trans (on₉.mono (by decide))) (fun j h1 h2 => (on₉ _ (by simp)).trans (ot7 j h1 h2)) ⟨⟨o9', (on₉ _ (by decide)).trans v9', d9'⟩, lk9'⟩ ⟨⟨o8', (on₉ _ (by decide)).trans v8', d8'⟩, lk8'⟩ hm1 hm2 hm3 vC hC eC hT1 hT2 hT3 F₉
end

end
section
section
variable {s₀ s s' : Shared} {R Z B : View} {V : Dyn} {L a P : Addr} {m : Str → Option Value} {o o' : Obj} {h' : Heap} {tk : Nat} {i : Nat × Nat}
/-- a heap that grows, but for one turned object -/
theorem St.updX (F : St s₀ R Z B V L m s) (hv : V i = some (a, o)) (hs : Heap.ExtBut a s.heap h') (ho : h'.get? a = some o') :
    St s₀ R Z B (V.put i (a, o')) L m { s with heap := h', toks := tk } := by
  obtain ⟨_, aR, aB⟩ := F.v i a o hv
  have hL : L ≠ a := fun q => F.lV i o (by rw [q]; exact hv)
  refine ⟨⟨fun b p e => ?_, fun b p e => ⟨?_, (F.b b p e).2⟩, fun j b p e => ?_, fun j j' b p p' e e' => ?_, F.same.up, F.z⟩, F.ns.extBut hs hL, F.lR, F.lB, fun j p e => ?_⟩
  · exact hs b p (fun h => by rw [h, aR] at e; cases e) (F.r b p e)
  · exact hs b p (fun h => by rw [h, aB] at e; cases e) (F.b b p e).1
  · unfold Dyn.put at e
    split at e
    · cases e; exact ⟨ho, aR, aB⟩
    · rename_i hj
      exact ⟨hs b p (fun h => by subst h; exact hj (F.inj j i _ _ _ e hv)) (F.v j b p e).1, (F.v j b p e).2⟩
  · unfold Dyn.put at e e'
    split at e <;> split at e'
    · rename_i h1 h2; rw [h1, h2]
    · rename_i h1 h2; cases e; exact absurd (F.inj j' i _ _ _ e' hv) h2
    · rename_i h1 h2; cases e'; exact absurd (F.inj j i _ _ _ e hv) h1
    · exact F.inj j j' b p p' e e'
  · unfold Dyn.put at e
    split at e
    · cases e; exact F.lV i o hv
    · exact F.lV j p e
/-- an object of the heap that no part tells: told from now on as kept -/
theorem St.addB (F : St s₀ R Z B V L m s) (ho : s.heap.get? a = some o) (hR : R a = none) (hB : B a = none) (hV : ∀ i p, V i ≠ some (a, p)) (hL : a ≠ L) : St s₀ R Z (B.put a o) V L m s := by
  refine ⟨⟨F.r, fun b p e => ?_, fun j b p e => ⟨(F.v j b p e).1, (F.v j b p e).2.1, ?_⟩, F.inj, F.same, F.z.trans (vput_le hB)⟩, F.ns, F.lR, ?_, F.lV⟩
  · unfold View.put at e
    split at e
    · rename_i h; subst h; cases e; exact ⟨ho, hR⟩
    · exact F.b b p e
  · unfold View.put
    split
    · rename_i h; subst h; exact absurd e (hV j p)
    · exact (F.v j b p e).2.2
  · unfold View.put
    split
    · rename_i h; exact absurd h.symm hL
    · exact F.lB
end
structure DefInfo where
  name : Str
  params : Arguments
  body : List Stmt
  scope : Scope
  pos : Pos
def DefInfo.stmt (i : DefInfo) : Stmt := .FunctionDef i.name i.params i.body [] none [] i.scope none i.name i.pos
def inferInfo (P : Params) : {i : DefInfo // (lawB P)[9]? = some i.stmt} := ⟨⟨_, _, _, _, _⟩, rfl⟩
abbrev infQual (P : Params) (L : Addr) : Str := qualnameIn (lawEnv P L) (inferInfo P).1.name (inferInfo P).1.name
/-- the law's nested function, made -/
abbrev infObj (P : Params) (L : Addr) (clos : List (Str × Addr)) (doc pm : Value) (c' : Addr) (ctv : Value) : Obj := fnMade (inferInfo P).1.name (infQual P L) (inferInfo P).1.params (inferInfo P).1.body (inferInfo P).1.scope clos doc pm c' ctv
abbrev infClos (L : Addr) : List (Str × Addr) := [(Str.ofString "variables", L + 1 + 1 + 1 + 1 + 1 + 1 + 1 + 1 + 1 + 1 + 1 + 1 + 1), (Str.ofString "follows", L + 1 + 1 + 1 + 1 + 1 + 1 + 1 + 1 + 1 + 1 + 1 + 1), (Str.ofString "classes", L + 1 + 1 + 1 + 1 + 1 + 1 + 1 + 1 + 1 + 1 + 1), (Str.ofString "asked", L + 1 + 1 + 1 + 1 + 1 + 1 + 1 + 1 + 1 + 1)]
structure FnAtB (P : Params) (L : Addr) (B : View) (fi : Addr) : Prop where
  ex : ∃ doc pm c' ctv oc fs t, B fi = some (infObj P L (infClos L) doc pm c' ctv) ∧ B c' = some oc ∧ oc.data = .fields fs ∧ fs[1]? = some (.str (infQual P L) t)
theorem clos_law (P : Params) (L : Addr) : closureFor (inferInfo P).1.scope (lawEnv P L) = pure (infClos L) := by rfl
structure CloAt (B : View) (c : Addr) (v : Value) : Prop where
  ex : ∃ o, B c = some o ∧ o.data = .cell (some v)
theorem CloAt.le {B B' : View} {c : Addr} {v : Value} (h : CloAt B c v) (hl : B.le B') : CloAt B' c v := let ⟨o, e, d⟩ := h.ex; ⟨o, hl _ _ e, d⟩
section
variable {prog : Program} {w : World} {A : Around} {E : Value → Shared → Prop} {s₀ s : Shared} {R Z B : View} {V : Dyn} {L a c C c' : Addr} {m mg mb : Str → Option Value} {env : Env} {x : Str} {pos : Pos} {v : Value} {o : Obj} {n : Nat}
theorem x_freeC {Q : Value → Shared → Prop} (hc : env.cells.lookup x = some c) (F : St s₀ R Z B V L m s) (ho : CloAt B c v) (h : Q v s) (hk : env.scope.kind = .function := by rfl) (hx : env.kindOf x = some .free := by rfl) (hd : (x == ("__debug__" : Str)) = false := by decide) (hn : (x == ("__classdict__" : Str)) = false := by decide) :
    wpAny (model prog w) A (eval (.Name x pos) env) Q E s := let ⟨_, e, d⟩ := ho.ex; x_free F hc (At.ofB e) d h hk hx hd hn
/-- the call of a made function, of closure cells -/
theorem call_clo {f : Addr} {nm qual : Str} {params : Arguments} {body : List Stmt} {scope : Scope} {clos : List (Str × Addr)} {doc pm ctv : Value} {oc : Obj} {fs : Array Value} {t : Tok} {args : List Value} {binds : List (Str × Value)} {Q : Value → Shared → Prop}
    (F : St s₀ R Z B V L m s) (Cc : Cx w mg mb Z) (hA : Lv n A) (ho : B f = some (fnMade nm qual params body scope clos doc pm c' ctv)) (h1 : B c' = some oc) (h2 : oc.data = .fields fs) (h3 : fs[1]? = some (.str qual t))
    (hbind : BindsTo s (fnX nm qual params body scope clos .none .none doc pm none (.ref c') ctv) ⟨args, []⟩ binds) (hloc : ∀ y ∈ binds, scope.names.lookup y.1 = some .local)
    (h : ∀ R' L' s', St s₀ R' B B V L' (fun y => binds.reverse.lookup y) s' → Cx w mg mb B → (∀ B' V' m' s'', St s₀ R' B B' V' L' m' s'' → St s₀ R Z B' V' L m s'') →
      wpAny (model prog w) (A.deeper (envX qual scope L' f (.ref c') clos)) (execs body (envX qual scope L' f (.ref c') clos)) (fun fl s'' => Q (retOf fl) s'') (fun _ _ => False) s')
    (hcell : ∀ x ∈ scope.names, x.2 ≠ .cell := by decide) (hco : scope.isCoroutine = false := by rfl) (hgen : scope.isGenerator = false := by rfl) (hk : scope.kind = .function := by rfl) :
    wpAny (model prog w) A (call (.ref f) args) Q E s := by
  refine wpAny_call ?_
  refine codeAny_call_def (fd := fnX nm qual params body scope clos .none .none doc pm none (.ref c') ctv) (body := body) (binds := binds) hA.room (F.b _ _ ho).1 rfl (Cc.nolim F.toFz) ⟨c', oc, fs, t, rfl, (F.b _ _ h1).1, h2, h3⟩ rfl hbind hcell hloc (fun h₁ hns k => ?_) hco hgen hk
  obtain ⟨F', back⟩ := F.enter (tk := s.toks + binds.length) (get_size_none _ (Nat.le_refl _)) hns k
  refine wpAny_mono (h _ _ _ F' (Cc.le F.z) back) (fun fl s'' q => ?_) fun _ _ e => e.elim
  cases fl <;> exact q
end

end
section
local macro_rules | `(tactic| walk_at "eval Name") => `(tactic| k_dflt (first
  | refine x_freeC (by with_reducible assumption) (by kby_int) (by with_reducible assumption) ?_
  | refine x_loc (by kby_int) (by dl_step) ?_
  | refine x_glob (by kby_int) (by assumption) (by kas_types) ?_
  | refine x_bi (by kby_int) (by assumption) (by kba_ints) (by kat_tups) (by decide) ?_))
section
section
variable {w : World} {mg mb : Str → Option Value} {D : Dom} {fo : Bool} {fi al va clsl L : Addr} {kv kc : Nat} {B₀ : View}
set_option maxHeartbeats 4000000 in
theorem infer_ok (hD : DomOK D B₀) (hfn : FnAtB w.params L B₀ fi) (h3 : CloAt B₀ (L + 1 + 1 + 1 + 1 + 1 + 1 + 1 + 1 + 1 + 1) (.ref al)) (h2 : CloAt B₀ (L + 1 + 1 + 1 + 1 + 1 + 1 + 1 + 1 + 1 + 1 + 1) (.ref clsl))
    (h1 : CloAt B₀ (L + 1 + 1 + 1 + 1 + 1 + 1 + 1 + 1 + 1 + 1 + 1 + 1) (.bool fo)) (h0 : CloAt B₀ (L + 1 + 1 + 1 + 1 + 1 + 1 + 1 + 1 + 1 + 1 + 1 + 1 + 1) (.ref va))
    (hva : B₀ va = some (listO ((List.range D.n).map fun j => .ref (D.var j)) kv)) (hca : B₀ clsl = some (listO ((List.range 3).map fun j => .ref (D.cls j)) kc)) : InferOK w mg mb D fo fi al 8 B₀ := by
  obtain ⟨doc, pm, c', ctv, oc, fs, tq, e1, e2, e3, e4⟩ := hfn.ex
  refine ⟨⟨_, _, e1, rfl⟩, ?_⟩
  intro prog A E s₀ s R Z B V L₀ m Q asks lt ut sd t hl Cc hA F aS hal hlt hut h
  have hD := hD.le hl
  refine call_clo (binds := [("one", .ref (D.cls (if sd then ut else lt))), ("other", .ref (D.cls (if sd then lt else ut))), ("side", .int (if sd then 1 else 0) t)]) F Cc hA (hl _ _ e1) (hl _ _ e2) e3 e4 (BindsTo.of_eq rfl) (locs rfl) (fun R' L' s' F' Cc' back => ?_) (hcell := by dsimp only [inferInfo]; decide)
  have f3 := h3.le hl
  have f2 := h2.le hl
  have f1 := h1.le hl
  have f0 := h0.le hl
  have hva' := hl _ _ hva
  have hca' := hl _ _ hca
  clear F h3 h2 h1 h0 hva hca Cc e1 e2 e3 e4 hfn
  generalize infQual w.params L = qq
  dsimp only [inferInfo]
  walk1
  walk1
  refine wpAny_mono (Q := fun v s'' => Leaf (∃ B' tt, B.le B' ∧ v = .ref tt ∧ B' tt = some (tupO [.ref (D.cls lt), .ref (D.cls ut)]) ∧ St s₀ R' B B' V L' (fun y => List.lookup y [(Str.ofString "one", Value.ref (D.cls (if sd = true then ut else lt))), (Str.ofString "other", Value.ref (D.cls (if sd = true then lt else ut))), (Str.ofString "side", Value.int (if sd = true then 1 else 0) t)].reverse) s'')) ?_ ?_ (fun _ _ e => e)
  · cases sd
    all_goals (simp only [Bool.false_eq_true, if_false, if_true] at F' ⊢)
    all_goals repeat walk1
    all_goals (rename_i tt s₁ hbt F₁; exact Leaf.mk ⟨_, tt, vput_le hbt, rfl, vput_self _ _ _, F₁⟩)
  rintro v s₁ ⟨B₁, tt, hl₁, rfl, htt, F₁⟩
  refine unpack2 F₁ (Lv.h (Lv.deeper hA)) htt fun s₂ F₂ => ?_
  replace hD := hD.le hl₁
  replace f3 := f3.le hl₁
  replace f2 := f2.le hl₁
  replace f1 := f1.le hl₁
  replace f0 := f0.le hl₁
  replace hva' := hl₁ _ _ hva'
  replace hca' := hl₁ _ _ hca'
  clear F₁ F'
  obtain ⟨ka, hav⟩ := aS.v
  have iL := (hD.cls lt hlt)
  have iU := (hD.cls ut hut)
  obtain ⟨tl, fl, itL⟩ := hD.ti lt hlt
  obtain ⟨tu, fu, itU⟩ := hD.ti ut hut
  walk1
  walk1
  walk1
  walk1
  rename_i s₃ F₃ s₄ F₄
  dsimp only
  have q3 : (infClos L).lookup (Str.ofString "asked") = some (L + 1 + 1 + 1 + 1 + 1 + 1 + 1 + 1 + 1 + 1) := rfl
  have q2 : (infClos L).lookup (Str.ofString "classes") = some (L + 1 + 1 + 1 + 1 + 1 + 1 + 1 + 1 + 1 + 1 + 1) := rfl
  have q1 : (infClos L).lookup (Str.ofString "follows") = some (L + 1 + 1 + 1 + 1 + 1 + 1 + 1 + 1 + 1 + 1 + 1 + 1) := rfl
  have q0 : (infClos L).lookup (Str.ofString "variables") = some (L + 1 + 1 + 1 + 1 + 1 + 1 + 1 + 1 + 1 + 1 + 1 + 1 + 1) := rfl
  walk1
  walk1
  walk1
  refine x_freeC q3 (by kby_int) f3 ?_
  iterate 22 walk1
  rename_i ta s₅ hbta F₅ s₆ F₆
  have hl₂ := vput_le (o := tupO [Value.int (if sd = true then 1 else 0) t, Value.str (clsName lt) tl, Value.str (clsName ut) tu]) hbta
  have hask : AskIs (B₁.put ta (tupO [Value.int (if sd = true then 1 else 0) t, Value.str (clsName lt) tl, Value.str (clsName ut) tu])) ta ((if sd then 1 else 0), lt, ut) := ⟨t, tl, tu, by rw [vput_self]; cases sd <;> rfl⟩
  generalize B₁.put ta (tupO [Value.int (if sd = true then 1 else 0) t, Value.str (clsName lt) tl, Value.str (clsName ut) tu]) = B₂ at F₆ hl₂ hask
  replace hD := hD.le hl₂
  replace f3 := f3.le hl₂
  replace f2 := f2.le hl₂
  replace f1 := f1.le hl₂
  replace f0 := f0.le hl₂
  replace hva' := hl₂ _ _ hva'
  replace hca' := hl₂ _ _ hca'
  have hl₀₂ := hl₁.trans hl₂
  have hask' : ∃ a, AskSt B₂ (V.put (9, 0) (al, listO (List.map aval asks ++ [Value.ref ta]) (ka + 1))) al (asks ++ [(a, (if sd then 1 else 0), lt, ut)]) := ⟨ta, ⟨ka + 1, by rw [List.map_append]; exact put_self _ _ _⟩, fun p hp => by
    rcases List.mem_append.mp hp with h | h
    · exact (aS.is p h).le hl₀₂
    · simp at h; subst h; exact hask⟩
  clear F₅ F₄ F₃ F₂ hbta hask iL iU itL itU
  dsimp only
  repeat' walk1
  · rename_i hfo
    refine l_len (vs := List.map aval asks ++ [Value.ref ta]) F₆ ⟨_, (F₆.v _ _ _ (put_self _ _ _)).1, rfl, ka + 1, rfl⟩ (by rw [List.length_append, List.length_map]; simp; omega) fun s₇ t₇ F₇ => ?_
    clear F₆
    repeat' walk1
    · rename_i hlen u₀ s₈ F₈
      have hnil : asks = [] := by
        rw [List.length_append, List.length_map] at hlen
        simp at hlen
        exact List.length_eq_zero_iff.mp (by omega)
      have h0n : 0 < D.n := hD.n1
      obtain ⟨_, _, _, _, ivar⟩ := hD.var 0 h0n
      refine l_sub (j := 0) F₈ (At.ofB hva') (map_getElem? _ h0n) (by omega) ?_
      clear F₇
      repeat walk1
      refine l_sub (j := 2) (by kby_int) (At.ofB hca') (map_getElem? _ (by decide)) (by omega) ?_
      repeat walk1
      refine c_Constraint (by kby_int) Cc' (by kd_p) ivar fun x dx es kx s₉ V₉ hbx hbd on₉ hkx F₉ => ?_
      have hlx := (vput_le (o := instObj 45 dx) hbx).trans (vput_le (o := dictOf es kx) hbd)
      have icon : IsCon D ((B₂.put x (instObj 45 dx)).put dx (dictOf es kx)) x fup := ⟨⟨h0n, fun h => absurd h (by decide), fun _ => by decide⟩, _, dx, es, kx, At.ofB (vput_le hbd _ _ (vput_self _ _ _)), At.ofB (vput_self _ _ _), hkx⟩
      generalize (B₂.put x (instObj 45 dx)).put dx (dictOf es kx) = B₃ at F₉ hlx icon
      clear F₈
      repeat walk1
      refine n_list (8, 0) (by kby_int) fun lr s₁₀ _ F₁₀ => ?_
      repeat walk1
      refine h lr x s₁₀ B₃ _ (hl₀₂.trans hlx) (back _ _ _ _ F₁₀) (((((Only.refl [8, 9] V).put (by decide) _)).trans (on₉.mono (by decide))).put (by decide) _) (let ⟨a, y⟩ := hask'; ⟨a, y.le hlx ((put_other _ _ (by decide)).trans (on₉ _ (by decide)))⟩) (fun _ => icon) ?_
      rw [if_pos ⟨hfo, hnil⟩]
      exact put_self _ _ _
    · rename_i s₈ F₈ hlen
      have hnil : asks ≠ [] := fun e => by subst e; simp at hlen
      refine n_list (8, 0) F₈ fun lr s₉ _ F₉ => ?_
      refine h lr lr s₉ B₂ _ hl₀₂ (back _ _ _ _ F₉) (((Only.refl _ _).put (by decide) _).put (by decide) _) (let ⟨a, x⟩ := hask'; ⟨a, x.le (View.le.refl _) (put_other _ _ (by decide))⟩) (fun e => absurd e.2 hnil) ?_
      rw [if_neg (fun e => hnil e.2)]
      exact put_self _ _ _
  · rename_i hfo
    refine n_list (8, 0) F₆ fun lr s₇ _ F₇ => ?_
    refine h lr lr s₇ B₂ _ hl₀₂ (back _ _ _ _ F₇) (((Only.refl _ _).put (by decide) _).put (by decide) _) (let ⟨a, x⟩ := hask'; ⟨a, x.le (View.le.refl _) (put_other _ _ (by decide))⟩) (fun e => absurd (hfo.symm.trans e.1) (by decide)) ?_
    rw [if_neg (fun e => absurd (hfo.symm.trans e.1) (by decide))]
    exact put_self _ _ _
end

end
end
section
/-- does the law hand in a follow-up -/
def folOf (ns : List Int) : Bool := (ns.getD 1 1).fmod 3 == 0
def HeadOK (mg : Str → Option Value) (Z : View) : Prop := ∀ h : Heap, (∀ a o, Z a = some o → h.get? a = some o) → CodeHd h 434 432 ∧ h.BuiltinsAt mg 432
theorem HeadOK.le {mg : Str → Option Value} {Z Z' : View} (h : HeadOK mg Z) (hl : Z.le Z') : HeadOK mg Z' := fun hp k => h hp fun a o e => k a o (hl _ _ e)
section
variable {prog : Program} {w : World} {A : Around} {E : Value → Shared → Prop} {s₀ s : Shared} {R Z B : View} {V : Dyn} {L l va ca lc lp : Addr} {m mg mb : Str → Option Value} {i : Nat × Nat} {n k kv kc : Nat} {o : Obj} {vs : List Value} {ns : List Int} {t t' : Tok} {z : Int} {D : Dom}
theorem St.settle' (F : St s₀ R Z B V L m s) {a : Addr} (hv : V i = some (a, o)) : ∃ B', B.le B' ∧ B' a = some o ∧ St s₀ R Z B' (V.del i) L m s :=
  ⟨_, vput_le (F.v _ _ _ hv).2.2, vput_self _ _ _, F.settle hv⟩
theorem n_infer {fl : Nat} {Q : Value → Shared → Prop} (F : St s₀ R Z B V L m s) (Cc : Cx w mg mb Z) (hH : HeadOK mg Z) (hV : V (12, 0) = some (432, tabObj #[]))
    (h : ∀ fi B' s' ps, B.le B' → FnAtB w.params L B' fi → St s₀ R Z B' (V.put (12, 0) (432, tabObj ps)) L m s' → Q (.ref fi) s') :
    wpAny (model prog w) A (makeFunction (inferInfo w.params).1.name (infQual w.params L) (inferInfo w.params).1.params (.stmts (inferInfo w.params).1.body) (inferInfo w.params).1.scope (lawEnv w.params L) [] [] [] (inferInfo w.params).1.pos fl) Q E s := by
  have hZ : ∀ a o, Z a = some o → s.heap.get? a = some o := fun a o e => (F.b _ _ (F.z _ _ e)).1
  obtain ⟨C, hb⟩ := hH s.heap hZ
  have hP := (F.v _ _ _ hV).1
  refine makeFunction_K (mg := mg) (c := 434) (P := 432) (ps := #[]) (clos_law w.params L) rfl (Cc.g.get F.toFz) rfl C hP trivial rfl (by decide) hb fun c' ctv doc h' tk hx hge hlt hrec htb => ?_
  obtain ⟨c₂, oc, fs, t, e2, hoc, hd, hv⟩ := hrec
  cases e2
  have F₁ := F.updX (tk := tk) (o' := tabObj (#[] ++ #[rawInt (inferInfo w.params).1.pos.line, rawInt (inferInfo w.params).1.pos.col, .ref c'])) hV hx htb
  have hn : s.heap.get? c' = none := get_size_none _ hge
  obtain ⟨fR, fB, fV⟩ := F.fresh hn
  have hne : c' ≠ 432 := fun e => by rw [e, hP] at hn; cases hn
  have F₂ := F₁.addB hoc fR fB (fun i p e => by
    unfold Dyn.put at e
    split at e
    · cases e; exact hne rfl
    · exact fV i p e) (fun e => F.ne_fresh hn e.symm)
  have n3 := get_fresh h'
  have F₃ := F₂.newB (tk := tk) (o := infObj w.params L (infClos L) doc ((mg "__name__").getD .none) c' ctv) n3 (fun _ _ e => Heap.get?_push_of_some _ e) (Heap.get?_push_size _ rfl)
  have hb3 := (F₂.fresh n3).2.1
  exact h _ _ _ _ ((vput_le fB).trans (vput_le hb3)) ⟨doc, _, c', ctv, oc, fs, t, vput_self _ _ _, vput_le hb3 _ _ (vput_self _ _ _), hd, hv⟩ F₃
set_option maxHeartbeats 4000000 in
theorem ph_C {Q : Flow → Shared → Prop} (F : St s₀ R Z B V L m s) (Cc : Cx w mg mb Z) (hA : Lv 30 A) (ho : B l = some o) (hc : o.cls = .type "list") (hd : o.data = .seq vs.toArray n) (hI : IntsAre vs ns) (h63 : vs.length ≤ 63)
    (hm : m (Str.ofString "script") = some (.ref l)) (hD : DomOK D B) (hH : HeadOK mg Z) (v12 : V (12, 0) = some (432, tabObj #[]))
    (hm1 : m (Str.ofString "constraints") = some (.ref lc)) (hm2 : m (Str.ofString "pairs") = some (.ref lp))
    (h : ∀ B' V' m' s' al fi ps, B.le B' → Only [9, 11, 12] V V' → (∀ j, j ≠ 0 → j ≠ 1 → j ≠ 2 → j ≠ 3 → V' (11, j) = V (11, j)) → CloAt B' (L + 1 + 1 + 1 + 1 + 1 + 1 + 1 + 1 + 1 + 1) (.ref al) → CloAt B' (L + 1 + 1 + 1 + 1 + 1 + 1 + 1 + 1 + 1 + 1 + 1 + 1) (.bool (folOf ns)) → CloAt B' (L + 1 + 1 + 1 + 1 + 1 + 1 + 1 + 1 + 1 + 1 + 1) (.ref ca) → CloAt B' (L + 1 + 1 + 1 + 1 + 1 + 1 + 1 + 1 + 1 + 1 + 1 + 1 + 1) (.ref va) →
      InferOK w mg mb D (folOf ns) fi al 8 B' → AskSt B' V' al [] → V' (12, 0) = some (432, tabObj ps) → m' (Str.ofString "script") = some (.ref l) → m' (Str.ofString "constraints") = some (.ref lc) → m' (Str.ofString "pairs") = some (.ref lp) → m' (Str.ofString "infer") = some (.ref fi) → St s₀ R Z B' V' L m' s' →
      wpAny (model prog w) A (execs ((lawB w.params).drop 10) (lawEnv w.params L)) Q E s')
    (c3 : CellV w.params L V 3 (L + 1 + 1 + 1 + 1 + 1 + 1 + 1 + 1 + 1 + 1) (Str.ofString "asked") none) (c1 : CellV w.params L V 1 (L + 1 + 1 + 1 + 1 + 1 + 1 + 1 + 1 + 1 + 1 + 1 + 1) (Str.ofString "follows") none)
    (c2 : CellV w.params L V 2 (L + 1 + 1 + 1 + 1 + 1 + 1 + 1 + 1 + 1 + 1 + 1) (Str.ofString "classes") (some (.ref ca))) (c0 : CellV w.params L V 0 (L + 1 + 1 + 1 + 1 + 1 + 1 + 1 + 1 + 1 + 1 + 1 + 1 + 1) (Str.ofString "variables") (some (.ref va)))
    (hva : B va = some (listO ((List.range D.n).map fun j => .ref (D.var j)) kv)) (hca : B ca = some (listO ((List.range 3).map fun j => .ref (D.cls j)) kc)) :
    wpAny (model prog w) A (execs ((lawB w.params).drop 7) (lawEnv w.params L)) Q E s := by
  have lk3 := c3.lk
  have lk1 := c1.lk
  have lk2 := c2.lk
  have lk0 := c0.lk
  obtain ⟨o3, v3, d3⟩ := c3.ex
  obtain ⟨o1, v1, d1⟩ := c1.ex
  obtain ⟨o2, v2, d2⟩ := c2.ex
  obtain ⟨o0, v0, d0⟩ := c0.ex
  clear c3 c1 c2 c0
  dsimp only [lawB, lawInfo, lawEnv, List.drop] at lk3 lk1 lk2 lk0 ⊢
  repeat walk1
  refine c_at (k := 1) (by kby_int) Cc (by kd_p) ho hc hd hI h63 fun s₁ t₁ F₁ => ?_
  clear F
  repeat walk1
  rename_i o1' s1' d1' F1'
  refine n_list (9, 0) (by kby_int) fun al s₂ _ F₂ => ?_
  repeat walk1
  rename_i oa s₃ da F₃
  clear F₂ F₁
  refine nestDef_K rfl rfl rfl ?_
  refine n_infer F₃ Cc hH (by dl_mem) fun fi B₄ s₄ ps hl₄ hfn F₄ => ?_
  walk1
  rename_i s₅ F₅
  clear F₃ F₄ F1'
  dsimp only
  obtain ⟨B₆, hl₆, e3, F₆⟩ := F₅.settle' (i := (11, 3)) (by dl_mem)
  obtain ⟨B₇, hl₇, e1, F₇⟩ := F₆.settle' (i := (11, 1)) (by dl_mem)
  obtain ⟨B₈, hl₈, e2, F₈⟩ := F₇.settle' (i := (11, 2)) (by dl_mem)
  obtain ⟨B₉, hl₉, e0, F₉⟩ := F₈.settle' (i := (11, 0)) (by dl_mem)
  clear F₅ F₆ F₇ F₈
  have hl₄₉ := hl₆.trans (hl₇.trans (hl₈.trans hl₉))
  have hl := hl₄.trans hl₄₉
  have hfn₉ : FnAtB w.params L B₉ fi := let ⟨d, p, c', ct, oc, fs, t, x1, x2, x3, x4⟩ := hfn.ex; ⟨d, p, c', ct, oc, fs, t, hl₄₉ _ _ x1, hl₄₉ _ _ x2, x3, x4⟩
  have k3 : CloAt B₉ (L + 1 + 1 + 1 + 1 + 1 + 1 + 1 + 1 + 1 + 1) (.ref al) := ⟨oa, hl₉ _ _ (hl₈ _ _ (hl₇ _ _ e3)), da⟩
  have k1 : CloAt B₉ (L + 1 + 1 + 1 + 1 + 1 + 1 + 1 + 1 + 1 + 1 + 1 + 1) (.bool (folOf ns)) := ⟨o1', hl₉ _ _ (hl₈ _ _ e1), d1'⟩
  have k2 : CloAt B₉ (L + 1 + 1 + 1 + 1 + 1 + 1 + 1 + 1 + 1 + 1 + 1) (.ref ca) := ⟨o2, hl₉ _ _ e2, d2⟩
  have k0 : CloAt B₉ (L + 1 + 1 + 1 + 1 + 1 + 1 + 1 + 1 + 1 + 1 + 1 + 1 + 1) (.ref va) := ⟨o0, e0, d0⟩
  refine h B₉ _ _ s₅ al fi ps hl (by repeat (first | exact Only.refl _ _ | refine Only.put ?_ (by decide) _ | refine Only.del ?_ (by decide))) (fun j h0 h1 h2 h3 => ?_) k3 k1 k2 k0 (infer_ok (hD.le hl) hfn₉ k3 k2 k1 k0 (hl _ _ hva) (hl _ _ hca)) ⟨⟨0, (show _ = some (al, listO [] 0) by dl_mem)⟩, fun p hp => by cases hp⟩ (by dl_mem) ((if_neg (by decide)).trans hm) ((if_neg (by decide)).trans hm1) ((if_neg (by decide)).trans hm2) (if_pos rfl) F₉
  rw [del_other _ (by simpa using h0), del_other _ (by simpa using h2), del_other _ (by simpa using h1), del_other _ (by simpa using h3), put_other _ _ (by simp), put_other _ _ (by simpa using h3), put_other _ _ (by simp), put_other _ _ (by simpa using h1)]
end

end
section
open PySem.SeqAt
abbrev askD (q : Ask) : PyData := .tuple [.int (q.1 : Int), .str (clsName q.2.1), .str (clsName q.2.2)]
theorem clsName_ok (j : Nat) : PyData.strOk (clsName j) = true := by
  unfold clsName; split <;> decide +kernel
theorem askD_ok (q : Ask) : (askD q).canLay0 = true := by
  simp [askD, PyData.canLay0, PyData.canLayAll0, clsName_ok]
theorem askL_ok (l : List Ask) : PyData.canLayAll0 (l.map askD) = true := by
  induction l with
  | nil => rfl
  | cons q l ih => rw [List.map_cons]; show (PyData.canLay0 _ && PyData.canLayAll0 _) = true; rw [askD_ok, ih]; rfl
theorem askL_depth (l : List Ask) : PyData.depthAll (l.map askD) ≤ 2 := by
  induction l with
  | nil => simp [PyData.depthAll]
  | cons q l ih => rw [List.map_cons]; simp only [PyData.depthAll, askD, PyData.depth]; omega
theorem askL_shaped (l : List Ask) : shaped (.list (l.map askD)) = true := by
  have h := askL_depth l
  show (PyData.canLay0 _ && decide _) = true
  rw [show PyData.canLay0 (.list (l.map askD)) = PyData.canLayAll0 (l.map askD) from rfl, askL_ok]
  have : PyData.depth (.list (l.map askD)) ≤ 64 := by simp only [PyData.depth]; omega
  simpa using this
theorem reads_ask {h : Heap} {a : Addr} {q : Ask} {t1 t2 t3 : Tok} (e : h.get? a = some (tupO [.int (q.1 : Int) t1, .str (clsName q.2.1) t2, .str (clsName q.2.2) t3])) : Reads h (.ref a) (askD q) [] :=
  Reads.tuple e rfl rfl (.cons (as := []) (.int _ _) (.cons (as := []) (.str _ _) (.cons (as := []) (.str _ _) .nil)))
theorem readsAll_asks {h : Heap} {asks : List (Addr × Ask)} (e : ∀ p ∈ asks, ∃ t1 t2 t3, h.get? p.1 = some (tupO [.int (p.2.1 : Int) t1, .str (clsName p.2.2.1) t2, .str (clsName p.2.2.2) t3])) : ReadsAll h (asks.map aval) ((asks.map (·.2)).map askD) [] := by
  induction asks with
  | nil => exact .nil
  | cons p asks ih =>
    obtain ⟨t1, t2, t3, e1⟩ := e p List.mem_cons_self
    exact .cons (as := []) (reads_ask e1) (ih fun q hq => e q (List.mem_cons_of_mem _ hq))
section
variable {prog : Program} {w : World} {A : Around} {E : Value → Shared → Prop} {s₀ s : Shared} {R Z B : View} {V : Dyn} {L l va al lc lp lh fi t g dl du : Addr} {m mg mb : Str → Option Value} {env : Env} {i : Nat × Nat} {n k kv kc k0 : Nat} {o : Obj} {vs : List Value} {ns : List Int} {v1 v2 v3 : Value} {e1 e2 e3 : Expr} {x1 : Nat} {tp : Pos} {z : Int} {D : Dom} {fo : Bool} {C : List (Addr × Con)} {P : Params} {hpairs : List Pr}
theorem unpack3 {Q : Unit → Shared → Prop} (F : St s₀ R Z B V L m s) (hh : A.handled = none) (ht : B t = some (tupO [v1, v2, v3]))
    (h : ∀ s', St s₀ R Z B V L m s' → wpAny (model prog w) A (assign e1 env v1) (fun _ s₁ => wpAny (model prog w) A (assign e2 env v2) (fun _ s₂ => wpAny (model prog w) A (assign e3 env v3) Q E s₂) E s₁) E s')
    (he : assignEach [e1, e2, e3] env = [(false, assign e1 env), (false, assign e2 env), (false, assign e3 env)] := by rfl) :
    wpAny (model prog w) A (assign (.Tuple [e1, e2, e3] x1 tp) env (.ref t)) Q E s := by
  refine PySem.wpAny_assign_Tuple (items := #[v1, v2, v3]) hh ⟨_, (F.b _ _ ht).1, rfl, _, rfl⟩ (by rw [he]; rfl) (by rw [he]; rfl) fun h' hk => ?_
  have F' : St s₀ R Z B V L m { s with heap := h' } := F.keep (tk := s.toks) fun b o e => hk b o (fun q => by rw [q, get_fresh] at e; cases e) e
  rw [he]
  show wpAny _ _ (assignInOrder [assign e1 env, assign e2 env, assign e3 env] [v1, v2, v3]) _ _ _
  unfold assignInOrder
  refine wpAny_bind (wpAny_holding (wpAny_mono (h _ F') (fun _ s₁ h₁ => ?_) fun _ _ e => e))
  refine wpAny_assignInOrder_more (wpAny_mono h₁ (fun _ s₂ h₂ => ?_) fun _ _ e => e)
  exact wpAny_assignInOrder_more (wpAny_mono h₂ (fun _ s₃ h₃ => wpAny_assignInOrder_none h₃) fun _ _ e => e)
set_option maxHeartbeats 4000000 in
theorem ph_D {Q : Flow → Shared → Prop} (F : St s₀ R Z B V L m s) (Cc : Cx w mg mb Z) (hA : Lv 30 A) (hD : DomOK D B)
    (hm1 : m (Str.ofString "constraints") = some (.ref lc)) (hm2 : m (Str.ofString "infer") = some (.ref fi)) (hm3 : m (Str.ofString "pairs") = some (.ref lp))
    (h : ∀ B' V' m' s' g du dl G lo up asks, B.le B' → Only [1, 2, 3, 4, 5, 6, 8, 9, 13, 14] V V' → V' (13, 1) = V (13, 1) → V' (13, 2) = V (13, 2) → (∀ j, V' (11, j) = V (11, j)) → m' (Str.ofString "pairs") = some (.ref lp) → m' (Str.ofString "graph") = some (.ref g) → m' (Str.ofString "lowers") = some (.ref dl) → m' (Str.ofString "uppers") = some (.ref du) →
      TupAt B' V' (13, 3) lh (hpairs ++ (if fo = true ∧ asks ≠ [] then [(0, 2)] else [])) → (∃ kg, V' (1, 0) = some (g, listO (List.map aval G) kg)) → GIs D B' G → RowsAt D V' 3 dl lo → RowsAt D V' 2 du up → AskSt B' V' al asks → Run fo D.n (start D.n (C.map (·.2))) (csOf G lo up [] asks) → asks.length ≤ 180 → St s₀ R Z B' V' L m' s' →
      wpAny (model prog w) A (execs ((lawB w.params).drop 12) (lawEnv w.params L)) Q E s')
    (k3 : CloAt B (L + 1 + 1 + 1 + 1 + 1 + 1 + 1 + 1 + 1 + 1) (.ref al)) (k1 : CloAt B (L + 1 + 1 + 1 + 1 + 1 + 1 + 1 + 1 + 1 + 1 + 1 + 1) (.bool fo)) (k0' : CloAt B (L + 1 + 1 + 1 + 1 + 1 + 1 + 1 + 1 + 1 + 1 + 1 + 1 + 1) (.ref va)) (c8 : CellV w.params L V 8 (L + 1 + 1 + 1 + 1 + 1) (Str.ofString "highs") (some (.ref lh)))
    (hI : InferOK w mg mb D fo fi al 8 B) (aS : AskSt B V al []) (hva : B va = some (listO ((List.range D.n).map fun j => .ref (D.var j)) kv))
    (vC : V (13, 0) = some (lc, listO (C.map aval) k0)) (hC : ∀ p ∈ C, IsCon D B p.1 p.2) (hC8 : C.length ≤ 8) (hT : TupAt B V (13, 3) lh hpairs) (hh8 : hpairs.length ≤ 8) :
    wpAny (model prog w) A (execs ((lawB w.params).drop 10) (lawEnv w.params L)) Q E s := by
  have lk8 := c8.lk
  obtain ⟨o8, v8, d8⟩ := c8.ex
  clear c8
  obtain ⟨o3, e3, d3⟩ := k3.ex
  obtain ⟨o1, e1, d1⟩ := k1.ex
  obtain ⟨o0, e0, d0⟩ := k0'.ex
  have lk3 : (lawEnv w.params L).cells.lookup (Str.ofString "asked") = some (L + 1 + 1 + 1 + 1 + 1 + 1 + 1 + 1 + 1 + 1) := rfl
  have lk1 : (lawEnv w.params L).cells.lookup (Str.ofString "follows") = some (L + 1 + 1 + 1 + 1 + 1 + 1 + 1 + 1 + 1 + 1 + 1 + 1) := rfl
  have lk0 : (lawEnv w.params L).cells.lookup (Str.ofString "variables") = some (L + 1 + 1 + 1 + 1 + 1 + 1 + 1 + 1 + 1 + 1 + 1 + 1 + 1) := rfl
  clear k3 k1 k0'
  dsimp only [lawB, lawInfo, lawEnv, List.drop] at lk3 lk1 lk0 lk8 ⊢
  repeat walk1
  have CcB := Cc.le F.z
  refine lc_none (i := (14, 1)) (Out := fun B' j zs => zs = [idV D j]) F (Src.list hA.h (At.ofB hva)) (loop1 (fun _ => True) (by simp [sizeLine]; have := hD.n5; omega) CcB (fun B' D ys n hl => At.ofB (hl _ _ hva)) (fun _ _ _ _ _ h => h) trivial ?_) ?_
  · intro C' Dd j v ys nn R₁ B₁ m₁ s₇ hj hP hl _ _ Cc₁ F₈
    have hj' : j < D.n := by simpa using hj
    obtain rfl : .ref (D.var j) = v := by
      rw [map_getElem? _ hj'] at hP; exact Option.some.inj hP
    obtain ⟨_, _, _, _, iv⟩ := (hD.le hl).var j hj'
    clear CcB F
    repeat walk1
    rename_i s₈ F₉
    exact Leaf.mk ⟨_, _, View.le.refl _, rfl, trivial, F₉⟩
  intro tl B₇ zs kt s₇ hl₇ hcat F₈
  have ez : zs = idsV D := by
    have h1 : ∀ (n : Nat) (zs : List Value), Cat (fun j zs => zs = [idV D j]) n zs → zs = (List.range n).map (idV D) := by
      intro n zs c
      induction c with
      | zero => rfl
      | succ _ o ih => rw [List.range_succ, List.map_append, ih, o]; rfl
    have h2 := h1 _ _ hcat
    rw [List.length_map, List.length_range] at h2
    exact h2
  subst ez
  obtain ⟨B₈, hl₈, htl, F₉⟩ := F₈.settle' (put_self _ _ _)
  obtain ⟨B₉, hl₉, hcs, F₁₀⟩ := F₉.settle' (i := (13, 0)) (by dl_mem)
  have htl' := hl₉ _ _ htl
  have hl₀₉ := hl₇.trans (hl₈.trans hl₉)
  clear F F₈ F₉ hcat CcB
  have onA : Only [13, 14] V (((V.put (14, 1) (tl, listO (idsV D) kt)).del (14, 1)).del (13, 0)) := by repeat (first | exact Only.refl _ _ | refine Only.put ?_ (by decide) _ | refine Only.del ?_ (by decide))
  have v33 : ∀ j, j ≠ 0 → (((V.put (14, 1) (tl, listO (idsV D) kt)).del (14, 1)).del (13, 0)) (13, j) = V (13, j) := fun j hj => by
    rw [del_other _ (by simpa using hj), del_other _ (by simp), put_other _ _ (by simp)]
  generalize (((V.put (14, 1) (tl, listO (idsV D) kt)).del (14, 1)).del (13, 0)) = V₉ at F₁₀ onA v33
  replace e3 := hl₀₉ _ _ e3
  replace e1 := hl₀₉ _ _ e1
  replace e0 := hl₀₉ _ _ e0
  replace v8 := (onA _ (by decide)).trans v8
  repeat walk1
  refine c_tc F₁₀ Cc (hD.le hl₀₉) (hI.le hl₀₉) (n := 8) (by kd_p) htl' hcs (fun p hp => (hC p hp).le hl₀₉) hC8 (aS.le hl₀₉ (onA _ (by decide))) fun B₁₁ V₁₁ s₁₁ tt g du dl G lo up asks hl₁₁ F₁₁ on₁₁ htt hg gi rlo rup ask run hlen => ?_
  clear F₁₀
  refine unpack3 F₁₁ hA.h htt fun s₁₂ F₁₂ => ?_
  replace e3 := hl₁₁ _ _ e3
  replace e1 := hl₁₁ _ _ e1
  replace e0 := hl₁₁ _ _ e0
  replace v8 := (on₁₁ _ (by decide)).trans v8
  obtain ⟨ka, hal⟩ := ask.v
  clear F₁₁
  have on₁₂ : Only [1, 2, 3, 4, 5, 6, 8, 9, 13, 14] V V₁₁ := (onA.mono (by decide)).trans (on₁₁.mono (by decide))
  have w1 : V₁₁ (13, 1) = V (13, 1) := (on₁₁ _ (by decide)).trans (v33 1 (by decide))
  have w2 : V₁₁ (13, 2) = V (13, 2) := (on₁₁ _ (by decide)).trans (v33 2 (by decide))
  have w3 : V₁₁ (13, 3) = V (13, 3) := (on₁₁ _ (by decide)).trans (v33 3 (by decide))
  obtain ⟨T, kT, vT, hTT, eT⟩ := hT.ex
  replace vT := w3.trans vT
  have hlT := hl₀₉.trans hl₁₁
  have hTlen : (T.map aval).length ≤ sizeLine := by
    have := congrArg List.length eT
    rw [List.length_map] at this ⊢; rw [sizeLine_eq]; omega
  repeat walk1
  · rename_i sa Fa sb Fb sc Fc hfo
    clear Fa Fb
    refine n_listB Fc fun le s₁₃ hbe F₁₃ => ?_
    have hle := vput_le (o := listO [] 0) hbe
    refine ne_dataH (da := .list ((asks.map (·.2)).map askD)) (db := .list []) (Reads.list (F₁₃.v _ _ _ hal).1 rfl rfl (readsAll_asks fun p hp => let ⟨t1, t2, t3, e⟩ := ask.is p hp; ⟨t1, t2, t3, (F₁₃.b _ _ (hle _ _ e)).1⟩))
      (Reads.list (F₁₃.b _ _ (vput_self _ _ _)).1 rfl rfl .nil) (askL_shaped _) rfl (by have := hA.u; show A.units + 64 < 9900; omega) ?_
    have eN : (!PyData.eqv (.list ((asks.map (·.2)).map askD)) (.list [])) = decide (asks ≠ []) := by
      cases asks with
      | nil => rfl
      | cons a l => rfl
    rw [eN]
    generalize B₁₁.put le (listO [] 0) = B₁₃ at F₁₃ hle
    replace e3 := hle _ _ e3
    replace e1 := hle _ _ e1
    replace e0 := hle _ _ e0
    clear Fc
    by_cases hne : asks = []
    · have ed : decide (asks ≠ []) = false := by simp [hne]
      rw [ed]
      iterate 3 walk1
      dsimp only
      refine h B₁₃ V₁₁ _ s₁₃ g du dl G lo up asks (hlT.trans hle) on₁₂ w1 w2 (fun j => on₁₂ _ (by simp)) ((if_neg (by decide)).trans ((if_neg (by decide)).trans ((if_neg (by decide)).trans hm3))) ((if_neg (by decide)).trans ((if_neg (by decide)).trans (if_pos rfl))) ((if_neg (by decide)).trans (if_pos rfl)) (if_pos rfl) ⟨T, kT, vT, hTT.le (hlT.trans hle), ?_⟩ hg (gi.le hle) rlo rup (ask.le hle rfl) run hlen F₁₃
      rw [if_neg (fun e => e.2 hne), List.append_nil]
      exact eT
    · have ed : decide (asks ≠ []) = true := by simp [hne]
      rw [ed]
      iterate 17 walk1
      refine n_int2 (by kby_int) fun tt₂ B₁₄ s₁₄ hl₁₄ ⟨ua, ub, htt₂⟩ F₁₄ => ?_
      iterate 3 walk1
      rename_i s₁₅ F₁₅
      dsimp only
      have onB : Only [13] V₁₁ (V₁₁.put (13, 3) (lh, listO (List.map aval T ++ [Value.ref tt₂]) (kT + 1))) := (Only.refl _ _).put (by decide) _
      refine h B₁₄ _ _ s₁₅ g du dl G lo up asks (hlT.trans (hle.trans hl₁₄)) (on₁₂.trans (onB.mono (by decide))) ((put_other _ _ (by decide)).trans w1) ((put_other _ _ (by decide)).trans w2) (fun j => (put_other _ _ (by simp)).trans (on₁₂ _ (by simp))) ((if_neg (by decide)).trans ((if_neg (by decide)).trans ((if_neg (by decide)).trans hm3))) ((if_neg (by decide)).trans ((if_neg (by decide)).trans (if_pos rfl))) ((if_neg (by decide)).trans (if_pos rfl)) (if_pos rfl) ?_ (let ⟨kg, e⟩ := hg; ⟨kg, (put_other _ _ (by decide)).trans e⟩) (gi.le (hle.trans hl₁₄)) (rlo.only onB (by decide)) (rup.only onB (by decide)) (ask.le (hle.trans hl₁₄) (put_other _ _ (by decide))) run hlen F₁₅
      rw [if_pos ⟨hfo, hne⟩, ← eT]
      exact TupAt.snoc hTT (hlT.trans (hle.trans hl₁₄)) htt₂ (put_self _ _ _)
  · rename_i sa Fa sb Fb sc Fc hfo
    walk1
    dsimp only
    refine h B₁₁ V₁₁ _ sc g du dl G lo up asks hlT on₁₂ w1 w2 (fun j => on₁₂ _ (by simp)) ((if_neg (by decide)).trans ((if_neg (by decide)).trans ((if_neg (by decide)).trans hm3))) ((if_neg (by decide)).trans ((if_neg (by decide)).trans (if_pos rfl))) ((if_neg (by decide)).trans (if_pos rfl)) (if_pos rfl) ⟨T, kT, vT, hTT.le hlT, ?_⟩ hg gi rlo rup ask run hlen Fc
    rw [if_neg (fun e => absurd (hfo.symm.trans e.1) (by decide)), List.append_nil]
    exact eT
end

end
section
/-- a list of small numbers -/
abbrev natsI (l : List Nat) : List Int := l.map fun (x : Nat) => (x : Int)
section
variable {prog : Program} {w : World} {A : Around} {E : Value → Shared → Prop} {s₀ s : Shared} {R Z B : View} {V : Dyn} {L l lp : Addr} {m mg mb : Str → Option Value} {env : Env} {i : Nat × Nat} {n k kp : Nat} {o : Obj} {vs : List Value} {ns : List Int} {D : Dom} {ps : List Pr} {T : List (Addr × Pr)} {t : Tok}
theorem intsAre_append {vs ws : List Value} {ns ms : List Int} (h : IntsAre vs ns) (h' : IntsAre ws ms) : IntsAre (vs ++ ws) (ns ++ ms) := by
  induction h with
  | nil => exact h'
  | cons n t _ ih => exact .cons n t ih
theorem cat_ints {α : Type} {T : List α} {c : α → Bool} {g : α → Int} {n : Nat} {zs : List Value} (h : Cat (fun q zs => ∀ p, T[q]? = some p → ∃ t, zs = if c p = true then [.int (g p) t] else []) n zs) : n ≤ T.length → IntsAre zs (((T.take n).filter c).map g) := by
  induction h with
  | zero => intro _; simp; exact .nil
  | @succ n ys zs _ o ih =>
    intro hn
    have hlt : n < T.length := by omega
    obtain ⟨t, ht⟩ := o T[n] (List.getElem?_eq_getElem hlt)
    have ih := ih (by omega)
    have e : T.take (n + 1) = T.take n ++ [T[n]] := by rw [List.take_add_one, List.getElem?_eq_getElem hlt]; rfl
    rw [e, List.filter_append, List.map_append]
    refine intsAre_append ih ?_
    rw [ht]
    by_cases hc : c T[n] = true
    · rw [if_pos hc, List.filter_cons_of_pos hc]; exact .cons _ _ .nil
    · rw [if_neg hc, List.filter_cons_of_neg hc]; exact .nil
theorem natsI_any (f : List Nat) (b : Nat) : (natsI f).any (· == (b : Int)) = f.contains b := by
  induction f with
  | nil => rfl
  | cons a f ih =>
    have e : (((a : Nat) : Int) == (b : Int)) = (b == a) := by rw [Bool.eq_iff_iff]; simp only [beq_iff_eq]; omega
    simp only [natsI, List.map_cons, List.any_cons, List.contains_cons] at ih ⊢
    rw [ih, e]
structure LeadsAt (B : View) (V : Dyn) (a : Addr) (ps : List Pr) (N k : Nat) : Prop where
  ex : ∃ (FL : List Addr) (kk : Nat), V (15, 1) = some (a, listO (FL.map .ref) kk) ∧ FL.length = k ∧ ∀ i x, FL[i]? = some x → ∃ (ws : List Value) (f : List Nat) (k' : Nat), B x = some (listO ws k') ∧ IntsAre ws (natsI f) ∧ f.length ≤ 45 ∧ (∀ b ∈ f, b < N) ∧ ∀ b, b ∈ f ↔ WayL ps i b
set_option maxHeartbeats 4000000 in
theorem ph_E {Q : Flow → Shared → Prop} (F : St s₀ R Z B V L m s) (Cc : Cx w mg mb Z) (hA : Lv 30 A) (hD : DomOK D B)
    (hm1 : m (Str.ofString "pairs") = some (.ref lp)) (hlp : B lp = some (listO (T.map aval) kp)) (hT : TupL B T) (eT : T.map (·.2) = ps) (hps : ∀ p ∈ ps, p.1 < D.n ∧ p.2 < D.n) (hp8 : ps.length ≤ 8)
    (h : ∀ B' V' s' la (FL : List Addr) kk, B.le B' → Only [11, 14, 15] V V' → (∀ j, j ≠ 10 → j ≠ 7 → j ≠ 6 → j ≠ 5 → V' (11, j) = V (11, j)) → CellV w.params L V' 7 (L + 1 + 1 + 1 + 1 + 1 + 1) (Str.ofString "leads") (some (.ref la)) → (∃ v, CellV w.params L V' 10 (L + 1 + 1 + 1) (Str.ofString "k") v) →
      B' la = some (listO (FL.map .ref) kk) → FL.length = D.n → (∀ i x, FL[i]? = some x → ∃ (ws : List Value) (f : List Nat) (k' : Nat), B' x = some (listO ws k') ∧ IntsAre ws (natsI f) ∧ f.length ≤ 45 ∧ (∀ b ∈ f, b < D.n) ∧ ∀ b, b ∈ f ↔ WayL ps i b) → St s₀ R Z B' V' L m s' →
      wpAny (model prog w) A (execs ((lawB w.params).drop 14) (lawEnv w.params L)) Q E s')
    (c11 : CellV w.params L V 11 (L + 1 + 1) (Str.ofString "size") (some (.int (D.n : Int) t)))
    (c10 : CellV w.params L V 10 (L + 1 + 1 + 1) (Str.ofString "k") none) (c7 : CellV w.params L V 7 (L + 1 + 1 + 1 + 1 + 1 + 1) (Str.ofString "leads") none)
    (c6 : CellV w.params L V 6 (L + 1 + 1 + 1 + 1 + 1 + 1 + 1) (Str.ofString "found") none) (c5 : CellV w.params L V 5 (L + 1 + 1 + 1 + 1 + 1 + 1 + 1 + 1) (Str.ofString "j") none) :
    wpAny (model prog w) A (execs ((lawB w.params).drop 12) (lawEnv w.params L)) Q E s := by
  have lk11 := c11.lk
  have lk10 := c10.lk
  have lk7 := c7.lk
  have lk6 := c6.lk
  have lk5 := c5.lk
  obtain ⟨o11, v11, d11⟩ := c11.ex
  obtain ⟨o10, v10, d10⟩ := c10.ex
  obtain ⟨o7, v7, d7⟩ := c7.ex
  obtain ⟨o6, v6, d6⟩ := c6.ex
  obtain ⟨o5, v5, d5⟩ := c5.ex
  clear c11 c10 c7 c6 c5
  have lk7' := lk7
  have lk10' := lk10
  dsimp only [lawB, lawInfo, lawEnv, List.drop] at lk11 lk10 lk7 lk6 lk5 ⊢
  repeat walk1
  refine n_list (15, 1) F fun la s₁ _ F₁ => ?_
  clear F
  repeat walk1
  rename_i o7' s₂ d7' F₂
  clear F₁
  refine wpAny_For ?_
  repeat walk1
  refine c_range (by kby_int) rfl fun ra s₃ u₂ u₃ u₄ hbr F₃ => ?_
  have hlr := vput_le (o := rangeO D.n u₂ u₃ u₄) hbr
  have hra : (B.put ra (rangeO D.n u₂ u₃ u₄)) ra = some (rangeO D.n u₂ u₃ u₄) := vput_self _ _ _
  generalize B.put ra (rangeO D.n u₂ u₃ u₄) = B₃ at F₃ hlr hra
  clear F₂
  have hn5 := hD.n5
  have hlp₃ := hlr _ _ hlp
  have hT₃ := hT.le hlr
  refine for_src (fun i B' V' m' => B₃.le B' ∧ Only [11, 14, 15] V V' ∧ (∀ j, j ≠ 10 → j ≠ 7 → j ≠ 6 → j ≠ 5 → V' (11, j) = V (11, j)) ∧ LeadsAt B' V' la ps D.n i ∧ V' (11, 7) = some ((L + 1 + 1 + 1 + 1 + 1 + 1), o7') ∧ (∃ o v, V' (11, 10) = some ((L + 1 + 1 + 1), o) ∧ o.data = .cell v) ∧ (∃ o v, V' (11, 6) = some ((L + 1 + 1 + 1 + 1 + 1 + 1 + 1), o) ∧ o.data = .cell v) ∧ (∃ o v, V' (11, 5) = some ((L + 1 + 1 + 1 + 1 + 1 + 1 + 1 + 1), o) ∧ o.data = .cell v) ∧ m' = m)
    F₃ (Src.range hA.h hra (by omega)) ⟨View.le.refl _, by repeat (first | exact Only.refl _ _ | refine Only.put ?_ (by decide) _), fun j h1 h2 h3 h4 => ?_, ⟨[], 0, (show _ = some (la, listO [] 0) by dl_mem), rfl, fun i x hi => by simp at hi⟩, by dl_mem, ⟨o10, _, by dl_mem, d10⟩, ⟨o6, _, by dl_mem, d6⟩, ⟨o5, _, by dl_mem, d5⟩, rfl⟩ (fun _ _ _ _ _ _ => trivial) ?_ ?_
  · rw [put_other _ _ (by simpa using h2), put_other _ _ (by simp)]
  · rintro i v R₂ B₄ V₄ m₄ s₄ hi ⟨ui, rfl⟩ hl₄ ⟨_, on₄, ot₄, ⟨FL, kk, vFL, hFL, hLs⟩, v7₄, ⟨oa, va', va, da⟩, ⟨ob, vb', vb, db⟩, ⟨oc, vc', vc, dc⟩, rfl⟩ F₄
    clear F₃
    repeat walk1
    rename_i oa' s₅ da' F₅
    refine n_list (15, 0) F₅ fun fa s₆ _ F₆ => ?_
    clear F₄ F₅
    repeat walk1
    rename_i ut su Fu tt sv hbt Fv sw Fw ob' s₉ db' F₉ oc' s₁₀ dc' F₁₀
    have hlt := vput_le (o := tupO [Value.ref fa, Value.int 0 ut]) hbt
    clear F₆ Fu Fv Fw F₉
    generalize B₄.put tt (tupO [Value.ref fa, Value.int 0 ut]) = B₁₀ at F₁₀ hlt
    have hl₁₀ := hl₄.trans hlt
    have hlp₁₀ := hl₁₀ _ _ hlp₃
    have hT₁₀ := hT₃.le hl₁₀
    refine wpAny_While (while_leaf (fun kM s' => ∃ B' V' fa' ws f j kf o6 o5 u5, kM = bfsM D.n f j ∧ B₁₀.le B' ∧ St s₀ R₂ Z B' V' L m₄ s' ∧ Only [11, 14, 15] V₄ V' ∧ (∀ q, q ≠ 10 → q ≠ 6 → q ≠ 5 → V' (11, q) = V₄ (11, q)) ∧ V' (15, 1) = V₄ (15, 1) ∧ (∃ o v, V' (11, 10) = some ((L + 1 + 1 + 1), o) ∧ o.data = .cell v) ∧
      V' (15, 0) = some (fa', listO ws kf) ∧ IntsAre ws (natsI f) ∧ Bfs ps i D.n f j ∧ f.length ≤ 9 * distinct D.n f ∧ V' (11, 6) = some ((L + 1 + 1 + 1 + 1 + 1 + 1 + 1), o6) ∧ o6.data = .cell (some (.ref fa')) ∧ V' (11, 5) = some ((L + 1 + 1 + 1 + 1 + 1 + 1 + 1 + 1), o5) ∧ o5.data = .cell (some (.int (j : Int) u5))) ?_ _
      ⟨B₁₀, _, fa, [.int (i : Int) ui], [i], 0, 0, ob', oc', ut, rfl, View.le.refl _, F₁₀, by repeat (first | exact Only.refl _ _ | refine Only.put ?_ (by decide) _), fun q h1 h2 h3 => ?_, ?_, ⟨oa', _, by dl_mem, da'⟩, by dl_mem, IntsAre.cons _ _ IntsAre.nil, bfs_start hi, ?_, by dl_mem, db', put_self _ _ _, dc'⟩)
    rotate_left
    · rw [put_other _ _ (by simpa using h3), put_other _ _ (by simpa using h2), put_other _ _ (by simp), put_other _ _ (by simpa using h1)]
    · rw [put_other _ _ (by decide), put_other _ _ (by decide), put_other _ _ (by decide), put_other _ _ (by decide)]
    · have : 0 < distinct D.n [i] := by
        unfold distinct
        exact List.length_pos_of_mem (a := i) (List.mem_filter.mpr ⟨List.mem_range.mpr hi, by simp⟩)
      simp; omega
    clear F₁₀
    rintro kM s₁₁ ⟨B', V', fa', ws, f, j, kf, o6', o5', u5, rfl, hl', F₁₁, on', ot', w1', ⟨ok, vk, vk10, dk⟩, vf', hW, hB, hlen, v6', d6', v5', d5'⟩
    repeat walk1
    have hwl := hW.length
    rw [List.length_map] at hwl
    have hd5 := distinct_le D.n f
    refine l_len (vs := ws) F₁₁ ⟨_, (F₁₁.v _ _ _ vf').1, rfl, kf, rfl⟩ (by omega) fun s₁₂ t₁₂ F₁₂ => ?_
    clear F₁₁
    have CcB := Cc.le F₁₂.z
    have hlp₁₂ := hl' _ _ hlp₁₀
    have hT₁₂ := hT₁₀.le hl'
    iterate 4 walk1
    · rename_i hjl
      iterate 6 walk1
      have hjf : j < f.length := by omega
      obtain ⟨x, hx⟩ : ∃ x, f[j]? = some x := ⟨_, List.getElem?_eq_getElem hjf⟩
      obtain ⟨y, hy⟩ : ∃ y, ws[j]? = some y := ⟨_, List.getElem?_eq_getElem (by omega)⟩
      obtain ⟨uy, rfl⟩ := hW.int_at j y hy
      have ex : (natsI f).getD j 0 = (x : Int) := by
        rw [List.getD_eq_getElem?_getD, List.getElem?_map, hx]; rfl
      rw [ex] at hy
      refine lc_none (i := (14, 1)) (Out := fun B' q zs => ∀ p, T[q]? = some p → ∃ t, zs = if (p.2.1 == x && !f.contains p.2.2) = true then [.int (p.2.2 : Int) t] else []) F₁₂ (Src.list hA.h (At.ofB hlp₁₂)) (loop1 (fun _ => True) (by have h1 := congrArg List.length eT; rw [List.length_map] at h1 ⊢; rw [sizeLine_eq]; omega) CcB (fun B' D ys n hl => At.ofB (hl _ _ hlp₁₂)) (fun _ _ _ _ _ h => h) trivial ?_) ?_
      · intro C' Dd q v ys nn R₁ B₁ m₁ s₁₃ hq hP hl _ _ Cc₁ F₁₃
        rw [List.getElem?_map] at hP
        obtain ⟨p, hp, rfl⟩ := Option.map_eq_some_iff.mp hP
        obtain ⟨ta, tb, hpt⟩ := (hT₁₂.le hl) p (List.mem_of_getElem? hp)
        clear CcB F₁₂
        unfold aval
        refine unpack2 F₁₃ hA.h hpt fun s₁₄ F₁₄ => ?_
        clear F₁₃
        iterate 11 walk1
        refine l_sub (by kby_int) (At.ofV (i := (15, 0)) (by dl_mem)) hy (by omega) ?_
        walk1
        walk1
        rename_i sg Fg sh Fh
        clear Fg F₁₄
        have eb : ((p.2.1 : Int) == (x : Int)) = (p.2.1 == x) := by
          rw [Bool.eq_iff_iff]; simp only [beq_iff_eq]; omega
        rw [eb]
        cases hpx : p.2.1 == x
        · rw [if_neg (by decide)]
          repeat walk1
          refine Leaf.mk ⟨_, _, View.le.refl _, fun p' hp' => ⟨0, ?_⟩, trivial, Fh⟩
          obtain rfl : p = p' := Option.some.inj (hp.symm.trans hp')
          rw [hpx]; rfl
        · rw [if_pos rfl]
          iterate 4 walk1
          refine notin_list_ints (vs := ws) (ns := natsI f) ⟨_, (Fh.v (15, 0) _ _ (by dl_mem)).1, rfl, kf, rfl⟩ hW ?_
          rw [natsI_any]
          cases hcf : f.contains p.2.2
          · walk1
            walk1
            rw [if_pos (by rfl)]
            repeat walk1
            refine Leaf.mk ⟨_, _, View.le.refl _, fun p' hp' => ⟨tb, ?_⟩, trivial, Fh⟩
            obtain rfl : p = p' := Option.some.inj (hp.symm.trans hp')
            rw [hpx, hcf]; rfl
          · walk1
            walk1
            rw [if_neg (by decide)]
            repeat walk1
            refine Leaf.mk ⟨_, _, View.le.refl _, fun p' hp' => ⟨0, ?_⟩, trivial, Fh⟩
            obtain rfl : p = p' := Option.some.inj (hp.symm.trans hp')
            rw [hpx, hcf]; rfl
      intro lq B₁₃ zs kq s₁₃ hl₁₃ hcat F₁₃
      have hZ : IntsAre zs (natsI (bfsNew ps f x)) := by
        have h1 := cat_ints (c := fun p : Addr × Pr => p.2.1 == x && !f.contains p.2.2) (g := fun p => ((p.2.2 : Nat) : Int)) hcat (by simp)
        rw [List.length_map, List.take_length] at h1
        have e : natsI (bfsNew ps f x) = (T.filter fun p : Addr × Pr => p.2.1 == x && !f.contains p.2.2).map fun p => ((p.2.2 : Nat) : Int) := by
          unfold bfsNew natsI
          rw [← eT, List.filter_map, List.map_map, List.map_map]
          rfl
        rw [e]; exact h1
      have hzl := hZ.length
      rw [List.length_map] at hzl
      have hbl := bfsNew_len ps f x
      clear hcat F₁₂ CcB
      refine l_add (15, 0) F₁₃ (At.ofV (i := (15, 0)) (by dl_mem)) (At.ofV (i := (14, 1)) (by dl_mem)) (by rw [sizeLine_eq]; omega) fun fb s₁₄ _ F₁₄ => ?_
      clear F₁₃
      iterate 3 walk1
      rename_i o6n s₁₅ d6n F₁₅
      refine wpAny_loadName_cell rfl rfl lk5 ⟨_, (F₁₅.v (11, 5) _ _ (by dl_mem)).1, d5'⟩ ?_
      clear F₁₄
      repeat walk1
      rename_i tq sq Fq o5n sr d5n Fr
      have hps2 : ∀ p ∈ ps, p.2 < D.n := fun p hp => (hps p hp).2
      have e5 : ((j : Int) + 1) = ((j + 1 : Nat) : Int) := by omega
      rw [e5] at d5n
      refine Leaf.mk ⟨_, bfsM_step (x := x) hps2 hp8 hjf, B₁₃, _, fb, ws ++ zs, f ++ bfsNew ps f x, j + 1, 0, o6n, o5n, _, rfl, hl'.trans hl₁₃, Fr, by repeat (first | exact on' | refine Only.put ?_ (by decide) _), fun q h1 h2 h3 => ?_, ?_, ⟨ok, vk, by dl_mem, dk⟩, by dl_mem, by rw [natsI, List.map_append]; exact intsAre_append hW hZ, hB.step hps2 hx, bfs_len_step hps2 hp8 hlen, by dl_mem, d6n, put_self _ _ _, d5n⟩
      · rw [put_other _ _ (by simpa using h3), put_other _ _ (by simpa using h2), put_other _ _ (by simp), put_other _ _ (by simp)]
        exact ot' q h1 h2 h3
      · rw [put_other _ _ (by decide), put_other _ _ (by decide), put_other _ _ (by decide), put_other _ _ (by decide)]
        exact w1'
    · rename_i hjl
      have hjf : f.length ≤ j := by omega
      clear CcB
      have vFL' := w1'.trans vFL
      have v7' := (ot' 7 (by decide) (by decide) (by decide)).trans v7₄
      have hFLl : (FL.map Value.ref).length ≤ sizeLine := by rw [List.length_map, sizeLine_eq]; omega
      repeat walk1
      rename_i s₁₃ F₁₃
      obtain ⟨B₁₆, hl₁₆, hfa, F₁₆⟩ := F₁₃.settle' (i := (15, 0)) (by dl_mem)
      have hd5 := distinct_le D.n f
      refine BodyEnd.next ⟨B₁₆, _, m₄, (hlt.trans hl').trans hl₁₆, ⟨hl₄.trans ((hlt.trans hl').trans hl₁₆), by repeat (first | exact on₄.trans on' | refine Only.put ?_ (by decide) _ | refine Only.del ?_ (by decide)), fun q h1 h2 h3 h4 => ?_, ⟨FL ++ [fa'], kk + 1, ?_, by simp [hFL], fun q x hq => ?_⟩, by dl_mem, ⟨ok, vk, by dl_mem, dk⟩, ⟨o6', _, by dl_mem, d6'⟩, ⟨o5', _, by dl_mem, d5'⟩, rfl⟩, F₁₆⟩
      · rw [del_other _ (by simp), put_other _ _ (by simp)]
        exact (ot' q h1 h3 h4).trans (ot₄ q h1 h2 h3 h4)
      · rw [List.map_append]; exact (del_other _ (by decide)).trans (put_self _ _ _)
      · by_cases hqi : q < FL.length
        · rw [List.getElem?_append_left hqi] at hq
          obtain ⟨ws', f', k', h1, h2, h3⟩ := hLs q x hq
          exact ⟨ws', f', k', ((hlt.trans hl').trans hl₁₆) _ _ h1, h2, h3⟩
        · have hq2 : q = FL.length := by have := (List.getElem?_eq_some_iff.mp hq).1; simp at this; omega
          subst hq2
          rw [List.getElem?_append_right (Nat.le_refl _)] at hq
          simp at hq
          subst hq
          rw [hFL]
          exact ⟨ws, f, kf, hfa, hW, by omega, hB.lt, hB.final hjf⟩
  rintro B₅ V₅ m₅ s₅ hl₅ ⟨_, on₅, ot₅, ⟨FL, kk, vFL, hFL, hLs⟩, v7₅, ⟨oa, va', va, da⟩, _, _, rfl⟩ F₅
  clear F₃
  dsimp only
  obtain ⟨B₆, hl₆, hla, F₆⟩ := F₅.settle' vFL
  refine h B₆ _ s₅ la FL kk ((hlr.trans hl₅).trans hl₆) (on₅.del (by decide)) (fun j h1 h2 h3 h4 => (del_other _ (by simp)).trans (ot₅ j h1 h2 h3 h4)) ⟨⟨o7', (del_other _ (by simp)).trans v7₅, d7'⟩, lk7'⟩ ⟨_, ⟨oa, (del_other _ (by simp)).trans va, da⟩, lk10'⟩ hla hFL (fun i x hi => let ⟨ws, f, k', h1, h2, h3⟩ := hLs i x hi; ⟨ws, f, k', hl₆ _ _ h1, h2, h3⟩) F₆
end

end
section
abbrev prD (p : Pr) : PyData := .tuple [.int (p.1 : Int), .int (p.2 : Int)]
theorem prL_shaped (l : List Pr) : PySem.SeqAt.shaped (.list (l.map prD)) = true := by
  have h1 : PyData.canLayAll0 (l.map prD) = true := by
    induction l with
    | nil => rfl
    | cons q l ih => rw [List.map_cons]; show (PyData.canLay0 _ && PyData.canLayAll0 _) = true; rw [ih]; rfl
  have h2 : PyData.depthAll (l.map prD) ≤ 2 := by
    induction l with
    | nil => simp [PyData.depthAll]
    | cons q l ih =>
      rw [List.map_cons]
      have ih := ih (by simp only [List.map_cons, PyData.canLayAll0, Bool.and_eq_true] at h1; exact h1.2)
      simp only [PyData.depthAll, prD, PyData.depth]; omega
  show (PyData.canLay0 _ && decide _) = true
  rw [show PyData.canLay0 (.list (l.map prD)) = PyData.canLayAll0 (l.map prD) from rfl, h1]
  have : PyData.depth (.list (l.map prD)) ≤ 64 := by simp only [PyData.depth]; omega
  simpa using this
theorem readsAll_prs {h : Heap} {T : List (Addr × Pr)} (e : ∀ p ∈ T, PrTup h p) : ReadsAll h (T.map aval) ((T.map (·.2)).map prD) [] := by
  induction T with
  | nil => exact .nil
  | cons p T ih =>
    obtain ⟨t1, t2, e1⟩ := e p List.mem_cons_self
    exact .cons (as := []) (Reads.tuple e1 rfl rfl (.cons (as := []) (.int _ _) (.cons (as := []) (.int _ _) .nil))) (ih fun q hq => e q (List.mem_cons_of_mem _ hq))
def duePairs (Ld : Nat → List Nat) (n : Nat) : List Pr := (List.range n).flatMap fun k => ((List.range n).filter fun j => (Ld k).contains j).map fun j => (k, j)
theorem due_mem {Ld : Nat → List Nat} {n a b : Nat} : (a, b) ∈ duePairs Ld n ↔ a < n ∧ b < n ∧ b ∈ Ld a := by
  unfold duePairs
  simp only [List.mem_flatMap, List.mem_range, List.mem_map, List.mem_filter, Prod.mk.injEq, List.contains_eq_mem, decide_eq_true_eq]
  constructor
  · rintro ⟨k, hk, j, ⟨hj, hc⟩, rfl, rfl⟩
    exact ⟨hk, hj, hc⟩
  · rintro ⟨h1, h2, h3⟩
    exact ⟨a, h1, b, ⟨h2, h3⟩, rfl, rfl⟩
theorem range_inc (n : Nat) : (List.range n).Pairwise (· < ·) := List.pairwise_lt_range
theorem due_inc {Ld : Nat → List Nat} {n : Nat} (h5 : n ≤ 5) : (duePairs Ld n).Pairwise (fun a b => prKey a < prKey b) := by
  unfold duePairs
  rw [List.pairwise_flatMap]
  refine ⟨fun k _ => ?_, (range_inc n).imp_of_mem fun {k k'} hk hk' hlt => ?_⟩
  · rw [List.pairwise_map]
    exact ((range_inc n).filter _).imp fun {a b} h => by simp only [prKey]; omega
  · intro x hx y hy
    simp only [List.mem_map, List.mem_filter, List.mem_range] at hx hy
    obtain ⟨j, ⟨hj, _⟩, rfl⟩ := hx
    obtain ⟨j', ⟨hj', _⟩, rfl⟩ := hy
    simp only [prKey]
    omega
/-- what the turns put out: tuples of two numbers -/
def OutT (f : Nat → List Pr) (B : View) (j : Nat) (zs : List Value) : Prop := ∃ T : List (Addr × Pr), zs = T.map aval ∧ T.map (·.2) = f j ∧ TupL B T
theorem OutT.mono {f : Nat → List Pr} (B' B'' : View) (j : Nat) (zs : List Value) (hl : B'.le B'') (h : OutT f B' j zs) : OutT f B'' j zs := let ⟨G, a, b, c⟩ := h; ⟨G, a, b, c.le hl⟩
theorem cat_tups {B : View} {f : Nat → List Pr} {n : Nat} {zs : List Value} (c : Cat (OutT f B) n zs) : ∃ T : List (Addr × Pr), zs = T.map aval ∧ T.map (·.2) = (List.range n).flatMap f ∧ TupL B T := by
  induction c with
  | zero => exact ⟨[], rfl, rfl, fun p h => absurd h (by simp)⟩
  | @succ n ys zs _ o ih =>
    obtain ⟨G, h1, h2, h3⟩ := ih
    obtain ⟨G', g1, g2, g3⟩ := o
    refine ⟨G ++ G', by rw [h1, g1, List.map_append], by rw [List.map_append, h2, g2, List.range_succ, List.flatMap_append]; simp, fun p hp => ?_⟩
    rcases List.mem_append.mp hp with hp | hp
    · exact h3 p hp
    · exact g3 p hp
theorem fl_filter {α β : Type} (c : α → Bool) (g : α → β) (l : List α) : (l.flatMap fun j => if c j = true then [g j] else []) = (l.filter c).map g := by
  induction l with
  | nil => rfl
  | cons a l ih =>
    rw [List.flatMap_cons, ih]
    by_cases h : c a = true
    · rw [List.filter_cons_of_pos h, if_pos h]; rfl
    · rw [List.filter_cons_of_neg h, if_neg h]; rfl

end
section
section
variable {prog : Program} {w : World} {A : Around} {E : Value → Shared → Prop} {s₀ s : Shared} {R Z B : View} {V : Dyn} {L la g : Addr} {m mg mb : Str → Option Value} {n kl kg : Nat} {D : Dom} {t : Tok} {G : List (Addr × Pr)} {FL : List Addr} {Ld : Nat → List Nat}
theorem leafT {B'' : View} {C : Addr} {m'' : Str → Option Value} {f : Nat → List Pr} {j : Nat} {zs : List Value} {Mk : (Str → Option Value) → Prop} (F : St s₀ R Z B'' V C m'' s) (hl : B.le B'') (hO : OutT f B'' j zs) (hm : Mk m'') :
    Leaf (∃ B'' m'', B.le B'' ∧ OutT f B'' j zs ∧ Mk m'' ∧ St s₀ R Z B'' V C m'' s) := Leaf.mk ⟨B'', m'', hl, hO, hm, F⟩
theorem s_listB {ws : List Value} {kk : Nat} {l : Addr} (F : St s₀ R Z B V L m s) (h : B l = some (listO ws kk)) : s.heap.IsList l ws.toArray := ⟨_, (F.b _ _ h).1, rfl, kk, rfl⟩
/-- the leads, told by a function -/
def LdAt (B : View) (FL : List Addr) (Ld : Nat → List Nat) (N : Nat) : Prop := FL.length = N ∧ ∀ i, i < N → ∃ x ws k', FL[i]? = some x ∧ B x = some (listO ws k') ∧ IntsAre ws (natsI (Ld i)) ∧ (Ld i).length ≤ 45
theorem LdAt.le {B B' : View} {N : Nat} (h : LdAt B FL Ld N) (hl : B.le B') : LdAt B' FL Ld N := ⟨h.1, fun i hi => let ⟨x, ws, k', h1, h2, h3⟩ := h.2 i hi; ⟨x, ws, k', h1, hl _ _ h2, h3⟩⟩
set_option maxHeartbeats 4000000 in
theorem ph_G {Q : Flow → Shared → Prop} (F : St s₀ R Z B V L m s) (Cc : Cx w mg mb Z) (hA : Lv 30 A) (hD : DomOK D B)
    (hm1 : m (Str.ofString "graph") = some (.ref g)) (hg : V (1, 0) = some (g, listO (G.map aval) kg)) (gi : GIs D B G) (hGn : (G.map (·.2)).Nodup) (hGm : ∀ a b, (a, b) ∈ G.map (·.2) ↔ a < D.n ∧ b < D.n ∧ b ∈ Ld a) (hG64 : G.length < 64)
    (hla : B la = some (listO (FL.map .ref) kl)) (hL : LdAt B FL Ld D.n)
    (h : ∀ B' V' m' s', B.le B' → Only [14, 15] V V' → (∀ x, x ≠ Str.ofString "told" → x ≠ Str.ofString "due" → m' x = m x) → St s₀ R Z B' V' L m' s' → wpAny (model prog w) A (execs ((lawB w.params).drop 19) (lawEnv w.params L)) Q E s')
    (c11 : CellV w.params L V 11 (L + 1 + 1) (Str.ofString "size") (some (.int (D.n : Int) t))) (c7 : CellV w.params L V 7 (L + 1 + 1 + 1 + 1 + 1 + 1) (Str.ofString "leads") (some (.ref la))) :
    wpAny (model prog w) A (execs ((lawB w.params).drop 16) (lawEnv w.params L)) Q E s := by
  have lk11 := c11.lk
  have lk7 := c7.lk
  obtain ⟨o11, v11, d11⟩ := c11.ex
  obtain ⟨o7, v7, d7⟩ := c7.ex
  clear c11 c7
  dsimp only [lawB, lawInfo, lawEnv, List.drop] at lk11 lk7 ⊢
  have hn5 := hD.n5
  repeat walk1
  have CcB := Cc.le F.z
  refine lc_none (i := (14, 1)) (Out := fun B' q zs => ∀ p, G[q]? = some p → ∃ a, zs = [.ref a] ∧ ∃ t t', B' a = some (tupO [.int (p.2.1 : Int) t, .int (p.2.2 : Int) t'])) F (Src.list hA.h (At.ofV hg)) (loop1 (fun _ => True) (by rw [List.length_map, sizeLine_eq]; omega) CcB (fun B' D ys n hl => At.ofV (i := (1, 0)) (by dl_mem)) (fun B' B'' q zs hl h p hp => let ⟨a, h1, t, t', h2⟩ := h p hp; ⟨a, h1, t, t', hl _ _ h2⟩) trivial ?_) ?_
  · intro C' Dd q v ys nn R₁ B₁ m₁ s₁ hq hP hl _ _ Cc₁ F₁
    rw [List.getElem?_map] at hP
    obtain ⟨p, hp, rfl⟩ := Option.map_eq_some_iff.mp hP
    obtain ⟨h1, h2, hpt⟩ := (gi.le hl) p (List.mem_of_getElem? hp)
    obtain ⟨_, _, i1⟩ := (hD.le hl).id p.2.1 h1
    obtain ⟨_, _, i2⟩ := (hD.le hl).id p.2.2 h2
    clear CcB F
    unfold aval
    refine unpack2 F₁ hA.h hpt fun s₂ F₂ => ?_
    clear F₁
    repeat walk1
    rw [show ((p.2.1 : Int) + 1 - 1) = (p.2.1 : Int) by omega, show ((p.2.2 : Int) + 1 - 1) = (p.2.2 : Int) by omega]
    refine n_int2 (by kby_int) fun tt B₂ s₃ hl₂ htt F₃ => ?_
    exact Leaf.mk ⟨_, _, hl₂, fun p' hp' => ⟨tt, rfl, by obtain rfl : p = p' := Option.some.inj (hp.symm.trans hp'); exact htt⟩, trivial, F₃⟩
  intro tq B₂ zs kq s₂ hl₂ hcat F₂
  rw [List.length_map] at hcat
  obtain ⟨T, rfl, eT, hT⟩ : ∃ T : List (Addr × Pr), zs = T.map aval ∧ T.map (·.2) = G.map (·.2) ∧ TupL B₂ T := by
    have key : ∀ (n : Nat) (zs : List Value), n ≤ G.length → Cat (fun q zs => ∀ p, G[q]? = some p → ∃ a, zs = [.ref a] ∧ ∃ t t', B₂ a = some (tupO [.int (p.2.1 : Int) t, .int (p.2.2 : Int) t'])) n zs → ∃ T : List (Addr × Pr), zs = T.map aval ∧ T.map (·.2) = (G.take n).map (·.2) ∧ TupL B₂ T := by
      intro n zs hn c
      induction c with
      | zero => exact ⟨[], rfl, by simp, by simp [TupL]⟩
      | @succ n ys zs _ o ih =>
        obtain ⟨T, h1, h2, h3⟩ := ih (by omega)
        obtain ⟨a, h4, h5⟩ := o G[n] (List.getElem?_eq_getElem (by omega))
        refine ⟨T ++ [(a, (G[n]).2)], by rw [h1, h4, List.map_append]; rfl, ?_, fun p hp => ?_⟩
        · have e : G.take (n + 1) = G.take n ++ [G[n]] := by rw [List.take_add_one, List.getElem?_eq_getElem (by omega)]; rfl
          rw [List.map_append, h2, e, List.map_append]; rfl
        · rcases List.mem_append.mp hp with h | h
          · exact h3 p h
          · simp at h; subst h; exact h5
    obtain ⟨T, h1, h2, h3⟩ := key _ _ (Nat.le_refl _) hcat
    rw [List.take_length] at h2
    exact ⟨T, h1, h2, h3⟩
  clear hcat F CcB
  have hTl : T.length = G.length := by have := congrArg List.length eT; simpa using this
  have hT5 : ∀ p ∈ T, p.2.1 < 5 ∧ p.2.2 < 5 := fun p hp => by
    have h1 : p.2 ∈ T.map (·.2) := List.mem_map_of_mem hp
    rw [eT] at h1
    have := (hGm p.2.1 p.2.2).mp h1
    omega
  repeat walk1
  refine t_sorted (i := (15, 2)) (O := natOrd) (κ := tupKind) (vs := T.map aval) (key := fun i => prKey ((T.map (·.2)).getD i (0, 0))) F₂ ⟨_, (F₂.v (14, 1) _ _ (put_self _ _ _)).1, rfl, kq, rfl⟩ (by rw [List.length_map]; omega) (ask_pr (fun p hp => let ⟨t, t', e⟩ := hT p hp; ⟨t, t', (F₂.b _ _ e).1⟩) hT5) fun b p kb s₃ _ hp hs F₃ => ?_
  obtain ⟨T', eT1, eT2, hT'⟩ : ∃ T' : List (Addr × Pr), p.toList.map (fun i => (T.map aval).getD i Value.none) = T'.map aval ∧ T'.map (·.2) = duePairs Ld D.n ∧ TupL B₂ T' := by
    rw [List.length_map] at hp hs
    have hin : ∀ i ∈ p.toList, i < T.length := fun i hi => List.mem_range.mp (hp.perm.mem_iff.mp hi)
    refine ⟨p.toList.map fun i => T.getD i (0, (0, 0)), ?_, ?_, fun q hq => ?_⟩
    · rw [List.map_map]
      exact List.map_congr_left fun i hi => by
        have := hin i hi
        show (T.map aval).getD i Value.none = aval (T.getD i (0, (0, 0)))
        rw [getD_aval this]
        simp [aval, this]
    · have hp' : PermOf (T.map (·.2)).length p := by rw [List.length_map]; exact hp
      have h1 := sort_out (key := prKey) (l := T.map (·.2)) (due := duePairs Ld D.n) (d := (0, 0)) hp' (by rw [List.length_map]; exact hs) (by rw [eT]; exact hGn) (fun a ha b hb e => ?_) (due_inc hn5) (fun x => ?_)
      · rw [← h1, List.map_map]
        exact List.map_congr_left fun i hi => by
          have := hin i hi
          simp [this]
      · obtain ⟨pa, hpa, rfl⟩ := List.mem_map.mp ha
        obtain ⟨pb, hpb, rfl⟩ := List.mem_map.mp hb
        have b1 := hT5 pa hpa
        have b2 := hT5 pb hpb
        simp only [prKey] at e
        exact Prod.ext (by omega) (by omega)
      · rw [eT]
        exact (hGm x.1 x.2).trans due_mem.symm
    · obtain ⟨i, hi, rfl⟩ := List.mem_map.mp hq
      have := hin i hi
      refine hT _ ?_
      simp [this]
  rw [eT1] at F₃
  clear hp hs eT1 F₂
  repeat walk1
  rename_i s₄ F₄
  clear F₃
  refine x_AssignListComp ?_
  repeat walk1
  refine c_range (by kby_int) rfl fun ra s₅ u₂ u₃ u₄ hbr F₅ => ?_
  have hlr := vput_le (o := rangeO D.n u₂ u₃ u₄) hbr
  have hra : (B₂.put ra (rangeO D.n u₂ u₃ u₄)) ra = some (rangeO D.n u₂ u₃ u₄) := vput_self _ _ _
  generalize B₂.put ra (rangeO D.n u₂ u₃ u₄) = B₅ at F₅ hlr hra
  clear F₄
  have hla₅ := (hl₂.trans hlr) _ _ hla
  have hL₅ := hL.le (hl₂.trans hlr)
  have CcB := Cc.le F₅.z
  repeat walk1
  refine lc_asg (i := (15, 3)) (Out := OutT fun k => ((List.range D.n).filter fun j => (Ld k).contains j).map fun j => (k, j)) F₅ (Src.range hA.h hra (by omega))
    (loop2 (Out' := fun B' k => OutT (fun j => if (Ld k).contains j then [(k, j)] else []) B') (fun _ => True) (by omega) CcB (fun B' D ys n hl => trivial) OutT.mono trivial ?_ ?_) ?_
  · rintro B' j zs ⟨T₁, rfl, h1, _⟩
    have h2 := congrArg List.length h1
    rw [List.length_map, List.length_map] at h2
    have h3 := List.length_filter_le (fun j_1 => (Ld j).contains j_1) (List.range D.n)
    rw [List.length_range] at h3
    rw [List.length_map]; omega
  · intro C Dd q v ys nn R₁ B₁ m₁ s₆ hq hP hl _ _ Cc₁ F₆
    obtain ⟨uq, rfl⟩ := hP
    clear F₅ CcB
    repeat walk1
    rename_i s₇ F₇
    refine c_range (by kby_int) rfl fun rb s₈ u₅ u₆ u₇ hbr₂ F₈ => ?_
    have hlr₂ := vput_le (o := rangeO D.n u₅ u₆ u₇) hbr₂
    have hrb : (B₁.put rb (rangeO D.n u₅ u₆ u₇)) rb = some (rangeO D.n u₅ u₆ u₇) := vput_self _ _ _
    generalize B₁.put rb (rangeO D.n u₅ u₆ u₇) = B₈ at F₈ hlr₂ hrb
    clear F₆ F₇
    refine Leaf.mk ⟨B₈, _, fun m => m (Str.ofString "k") = some (.int (q : Int) uq), D.n, _, _, hlr₂, F₈, by dl_step, Src.range hA.h hrb (by omega), by omega, fun _ _ _ _ => trivial, OutT.mono, fun B' zs hl hc => ?_, fun _ _ => trivial, ?_⟩
    · obtain ⟨T₁, h1, h2, h3⟩ := cat_tups hc
      exact ⟨T₁, h1, h2.trans (fl_filter _ _ _), h3⟩
    intro j' v' ys nn R₂ B₉ m₂ s₉ hj' hP' hl₉ hmk F₉
    obtain ⟨uj, rfl⟩ := hP'
    have hl₅₉ := hl.trans (hlr₂.trans hl₉)
    have hla₉ := hl₅₉ _ _ hla₅
    obtain ⟨x, ws, k', hx1, hx2, hx3, hx4⟩ := (hL₅.le hl₅₉).2 q hq
    have hx5 : (FL.map Value.ref)[q]? = some (.ref x) := by rw [List.getElem?_map, hx1]; rfl
    clear F₈
    iterate 8 walk1
    refine l_sub (by kby_int) (At.ofB hla₉) hx5 (by omega) ?_
    refine in_list_ints (vs := ws) (ns := natsI (Ld q)) (s_listB (by assumption) hx2) hx3 ?_
    rw [natsI_any]
    cases hcf : (Ld q).contains j'
    · repeat walk1
      refine leafT (by assumption) (View.le.refl _) ⟨[], rfl, by dsimp only; rw [hcf]; rfl, by simp [TupL]⟩ (by dl_step)
    · repeat walk1
      rename_i tt s₁₀ hbt F₁₀
      refine leafT F₁₀ (vput_le hbt) ⟨[(tt, (q, j'))], rfl, by dsimp only; rw [hcf]; rfl, fun p hp => ?_⟩ (by dl_step)
      simp at hp; subst hp
      exact ⟨_, _, vput_self _ _ _⟩
  intro da B₆ zs kd s₆ hl₆ hcat F₆
  obtain ⟨T₂, rfl, eT3, hT2⟩ := cat_tups hcat
  clear hcat F₅ CcB
  have eT4 : T₂.map (·.2) = duePairs Ld D.n := eT3
  have hT'₆ := hT'.le (hlr.trans hl₆)
  repeat walk1
  refine ne_dataH (da := .list ((T'.map (·.2)).map prD)) (db := .list ((T₂.map (·.2)).map prD)) (Reads.list (F₆.v (15, 2) _ _ (by dl_mem)).1 rfl rfl (readsAll_prs fun p hp => let ⟨t, t', e⟩ := hT'₆ p hp; ⟨t, t', (F₆.b _ _ e).1⟩))
    (Reads.list (F₆.v (15, 3) _ _ (put_self _ _ _)).1 rfl rfl (readsAll_prs fun p hp => let ⟨t, t', e⟩ := hT2 p hp; ⟨t, t', (F₆.b _ _ e).1⟩)) (prL_shaped _) (prL_shaped _) (by have := hA.u; show A.units + 64 < 9900; omega) ?_
  have eN : (!PyData.eqv (.list ((T'.map (·.2)).map prD)) (.list ((T₂.map (·.2)).map prD))) = false := by
    rw [eT2, eT4, PySem.SeqAt.eqv_refl _ (PySem.SeqAt.canLay_of_shaped (prL_shaped _))]; rfl
  rw [eN]
  iterate 3 walk1
  dsimp only
  refine h B₆ _ _ s₆ (hl₂.trans (hlr.trans hl₆)) (by repeat (first | exact Only.refl _ _ | refine Only.put ?_ (by decide) _)) (fun x h1 h2 => (if_neg h2).trans (if_neg h1)) F₆
end

end
section
section
variable {prog : Program} {w : World} {A : Around} {E : Value → Shared → Prop} {s₀ s : Shared} {R Z B : View} {V : Dyn} {L la va g dl du : Addr} {m mg mb : Str → Option Value} {n kl kg kv : Nat} {D : Dom} {t : Tok} {G : List (Addr × Pr)} {FL : List Addr} {Ld : Nat → List Nat} {lo up : Nat → List Nat} {vk : Option Value}
theorem d_len {d : Addr} {f : Nat → Addr} {i : Nat × Nat} {vs : List Value} {ep : Nat} {Q : Value → Shared → Prop} (F : St s₀ R Z B V L m s) (hd : (d == sysModules) = false) (hv : V i = some (d, dictD f vs ep)) (h5 : vs.length ≤ 5) (h : ∀ s' t, St s₀ R Z B V L m s' → Q (.int (vs.length : Int) t) s') :
    wpAny (model prog w) A (call (.builtin "len") [.ref d]) Q E s := by
  have ho := (F.v _ _ _ hv).1
  have hT : s.TypeIs (.ref d) "dict" := ⟨_, ho, rfl⟩
  refine Calls.call_function_entry kind_len plain_len entry_len (args_len1 _) ?_
  unfold Builtin.«len»
  refine wpAny_bind (m := oneArg "len" _) (wpAny_pure ?_)
  refine wpAny_bind (m := callSpecial? (.ref d) (Str.ofString "__len__")) (wpAny_callSpecial?_slot (name := Str.ofString "__len__") hT PySem.F.slot_dict_len
    (wpAny_call_entry PySem.F.slot_dict_len hT PySem.F.entry_dict_len ?_ (PySem.F.args_dict_len_1 _)))
  show wpAny _ _ (dictSize d >>= _) _ _ s
  unfold dictSize
  refine wpAny_bind (wpAny_bind (wpAny_dictEntries ho rfl (wpAny_pure ?_)))
  show wpAny _ _ (Builtin.Dict.pendingCount d >>= _) _ _ s
  refine wpAny_bind (wpAny_pendingCount_other hd ?_)
  refine wpAny_ret_mkInt ?_
  have hes : (ents f vs).toArray.size = vs.length := by rw [List.size_toArray, ents_len]
  show wpAny _ _ _ _ _ { s with toks := s.toks + 1 }
  rw [show (((ents f vs).toArray.size : Nat) : Int) + ((0 : Nat) : Int) = ((vs.length : Nat) : Int) by rw [hes]; omega]
  refine wpAny_bind (wpAny_holding (wpAny_pure ?_))
  refine wpAny_bind (wpAny_letGo ?_)
  show wpAny _ _ (if ((vs.length : Nat) : Int) < 0 then _ else _) _ _ _
  rw [if_neg (by omega)]
  show wpAny _ _ (if ((vs.length : Nat) : Int) ≥ 2 ^ 63 then _ else _) _ _ _
  rw [if_neg (by omega)]
  exact wpAny_bind (wpAny_mkInt (wpAny_pure ⟨_, rfl, h _ _ (F.toks (tk := s.toks + 1 + 1))⟩))
theorem dedup_id {l : List Nat} (h : l.Nodup) : dedup l = l := by
  refine snoc_ind (P := fun l => l.Nodup → dedup l = l) (fun _ => rfl) (fun l x ih h => ?_) l h
  rw [List.nodup_append] at h
  rw [dedup_snoc, ih h.1, if_neg]
  simp only [List.any_eq_true, beq_iff_eq, not_exists, not_and]
  intro y hy e
  exact h.2.2 y hy x (by simp) e
theorem sub_dict {value slice : Expr} {d : Addr} {f : Nat → Addr} {ep k : Nat} {v : Value} {vs : List Value} {Q : Value → Shared → Prop} (F : St s₀ R Z B V L m s) (Cc : Cx w mg mb Z) (hA : Lv 2 A) (hd : DictAt B V d f vs ep) (hx : IsId B (f k) k) (hk : vs[k]? = some v) (h : ∀ s', St s₀ R Z B V L m s' → Q v s')
    (hs : subscripted slice false (.ref d) (.ref (f k)) = operate [.ref d, .ref (f k)] (getItem (.ref d) (.ref (f k))) := by with_unfolding_all rfl) (ht : ∀ r, letTemporaryGo value (.ref d) r = pure () := by intro _; with_unfolding_all rfl) :
    wpAny (model prog w) A (subscriptTail value slice (.ref d) (.ref (f k))) Q E s :=
  subscriptTail_builtin ⟨_, hd.at_.get F.toFz, rfl⟩ slot_dict_getitem.lookup (d_item F Cc hA hd hx hk h) hs ht
theorem s_sorted {l : Addr} {i : Nat × Nat} {vs : List Value} {ns : List Int} {Q : Value → Shared → Prop} (F : St s₀ R Z B V L m s) (hl : s.heap.IsList l vs.toArray) (hI : IntsAre vs ns) (h64 : vs.length < 64) (hs : ns.Pairwise (· ≤ ·))
    (h : ∀ b ws k s', IntsAre ws ns → St s₀ R Z B (V.put i (b, listO ws k)) L m s' → Q (.ref b) s') : wpAny (model prog w) A (call (.builtin "sorted") [.ref l]) Q E s := by
  refine sorted_ints hl hI h64 fun out ns' hI' hp hs' => ?_
  have e1 : ns' = ns := List.Perm.eq_of_pairwise (le := (· ≤ ·)) (fun a b _ _ h1 h2 => Int.le_antisymm h1 h2) hs' hs hp
  subst e1
  have F₁ : St s₀ R Z B V L m { s with heap := sortedAll s.heap vs out, toks := s.toks } := F.keep fun b o e => sortedAll_old e
  obtain ⟨e, he⟩ := sortedAll_at s.heap vs out
  have n1 : s.heap.get? (s.heap.objs.size + 1) = none := get_size_none _ (Nat.le_succ _)
  obtain ⟨fR, fB, fV⟩ := F.fresh n1
  refine h _ out.toList e _ hI' ?_
  have := F₁.addV (i := i) he fR fB fV (fun q => F.ne_fresh n1 q.symm)
  simpa using this
set_option maxHeartbeats 4000000 in
theorem ph_I {Q : Flow → Shared → Prop} (F : St s₀ R Z B V L m s) (Cc : Cx w mg mb Z) (hA : Lv 30 A) (hD : DomOK D B)
    (hm1 : m (Str.ofString "graph") = some (.ref g)) (hm2 : m (Str.ofString "lowers") = some (.ref dl)) (hm3 : m (Str.ofString "uppers") = some (.ref du)) (hg : V (1, 0) = some (g, listO (G.map aval) kg)) (gi : GIs D B G) (hlo : RowsAt D V 3 dl lo) (hup : RowsAt D V 2 du up)
    (hGm : ∀ a b, (a, b) ∈ G.map (·.2) ↔ a < D.n ∧ b < D.n ∧ b ∈ Ld a)
    (hla : B la = some (listO (FL.map .ref) kl)) (hL : LdAt B FL Ld D.n) (hva : B va = some (listO ((List.range D.n).map fun j => .ref (D.var j)) kv)) (k0 : CloAt B (L + 1 + 1 + 1 + 1 + 1 + 1 + 1 + 1 + 1 + 1 + 1 + 1 + 1) (.ref va))
    (c11 : CellV w.params L V 11 (L + 1 + 1) (Str.ofString "size") (some (.int (D.n : Int) t))) (c10 : CellV w.params L V 10 (L + 1 + 1 + 1) (Str.ofString "k") vk) (c7 : CellV w.params L V 7 (L + 1 + 1 + 1 + 1 + 1 + 1) (Str.ofString "leads") (some (.ref la)))
    (h : ∀ B' V' m' s', B.le B' → Only [6, 7, 10, 11, 14, 15] V V' → St s₀ R Z B' V' L m' s' → Q (.ret (.bool true)) s') :
    wpAny (model prog w) A (execs ((lawB w.params).drop 20) (lawEnv w.params L)) Q E s := by
  have lk11 := c11.lk
  have lk10 := c10.lk
  have lk7 := c7.lk
  have lk0 : (lawEnv w.params L).cells.lookup (Str.ofString "variables") = some (L + 1 + 1 + 1 + 1 + 1 + 1 + 1 + 1 + 1 + 1 + 1 + 1 + 1) := rfl
  obtain ⟨o11, v11, d11⟩ := c11.ex
  obtain ⟨o10, v10, d10⟩ := c10.ex
  obtain ⟨o7, v7, d7⟩ := c7.ex
  obtain ⟨o0, e0, d0⟩ := k0.ex
  clear c11 c10 c7 k0
  dsimp only [lawB, lawInfo, lawEnv, List.drop] at lk11 lk10 lk7 lk0 ⊢
  have hn5 := hD.n5
  repeat walk1
  have CcB := Cc.le F.z
  refine lc_none (i := (14, 1)) (Out := fun B' j zs => zs = [idV D j]) F (Src.list hA.h (At.ofB hva)) (loop1 (fun _ => True) (by simp [sizeLine]; omega) CcB (fun B' D ys n hl => At.ofB (hl _ _ hva)) (fun _ _ _ _ _ h => h) trivial ?_) ?_
  · intro C' Dd j v ys nn R₁ B₁ m₁ s₇ hj hP hl _ _ Cc₁ F₈
    have hj' : j < D.n := by simpa using hj
    obtain rfl : .ref (D.var j) = v := by
      rw [map_getElem? _ hj'] at hP; exact Option.some.inj hP
    obtain ⟨_, _, _, _, iv⟩ := (hD.le hl).var j hj'
    clear CcB F
    repeat walk1
    rename_i s₈ F₉
    exact Leaf.mk ⟨_, _, View.le.refl _, rfl, trivial, F₉⟩
  intro tl B₇ zs kt s₇ hl₇ hcat F₈
  have ez : zs = idsV D := by
    have h1 : ∀ (n : Nat) (zs : List Value), Cat (fun j zs => zs = [idV D j]) n zs → zs = (List.range n).map (idV D) := by
      intro n zs c
      induction c with
      | zero => rfl
      | succ _ o ih => rw [List.range_succ, List.map_append, ih, o]; rfl
    have h2 := h1 _ _ hcat
    rw [List.length_map, List.length_range] at h2
    exact h2
  subst ez
  obtain ⟨B₈, hl₈, htl, F₉⟩ := F₈.settle' (put_self _ _ _)
  have hl₀₈ := hl₇.trans hl₈
  have onA : Only [14] V ((V.put (14, 1) (tl, listO (idsV D) kt)).del (14, 1)) := ((Only.refl _ _).put (by decide) _).del (by decide)
  generalize ((V.put (14, 1) (tl, listO (idsV D) kt)).del (14, 1)) = V₉ at F₉ onA
  clear F F₈ hcat CcB
  repeat walk1
  refine c_deps F₉ Cc (by kd_p) (hD.le hl₀₈) htl ((onA _ (by decide)).trans hg) (gi.le hl₀₈) (hlo.only onA (by decide)) (hup.only onA (by decide)) fun nd B₁₀ V₁₀ s₁₀ hns hl₁₀ on₁₀ hdep F₁₀ => ?_
  clear F₉
  walk1
  rename_i s₁₁ F₁₁
  clear F₁₀
  dsimp only
  have hl₀₁₀ := hl₀₈.trans hl₁₀
  replace e0 := hl₀₁₀ _ _ e0
  have on0 : Only [6, 7, 10, 14] V V₁₀ := (onA.mono (by decide)).trans (on₁₀.mono (by decide))
  replace v11 := (on0 _ (by decide)).trans v11
  replace v10 := (on0 _ (by decide)).trans v10
  replace v7 := (on0 _ (by decide)).trans v7
  walk1
  refine wpAny_For ?_
  repeat walk1
  refine c_range (by kby_int) rfl fun ra s₁₂ u₂ u₃ u₄ hbr F₁₂ => ?_
  have hlr := vput_le (o := rangeO D.n u₂ u₃ u₄) hbr
  have hra : (B₁₀.put ra (rangeO D.n u₂ u₃ u₄)) ra = some (rangeO D.n u₂ u₃ u₄) := vput_self _ _ _
  generalize B₁₀.put ra (rangeO D.n u₂ u₃ u₄) = B₁₂ at F₁₂ hlr hra
  have hl₀₁₂ := hl₀₁₀.trans hlr
  replace e0 := hlr _ _ e0
  clear F₁₁
  refine for_src (fun i B' V' m' => B₁₂.le B' ∧ Only [11, 14, 15] V₁₀ V' ∧ V' (11, 11) = some ((L + 1 + 1), o11) ∧ V' (11, 7) = some ((L + 1 + 1 + 1 + 1 + 1 + 1), o7) ∧ (∃ o v, V' (11, 10) = some ((L + 1 + 1 + 1), o) ∧ o.data = .cell v) ∧ m' (Str.ofString "needs") = some (.ref nd))
    F₁₂ (Src.range hA.h hra (by omega)) ⟨View.le.refl _, Only.refl _ _, v11, v7, ⟨o10, _, v10, d10⟩, by dl_step⟩ (fun _ _ _ _ _ _ => trivial) ?_ ?_
  · rintro q v R₂ B₂ V₂ m₂ s₁₃ hq ⟨uq, rfl⟩ hl₂ ⟨_, on₂, v11₂, v7₂, ⟨ok, vk', vk10, dk⟩, hmn⟩ F₁₃
    have hl₀₂ := hl₀₁₂.trans hl₂
    have hD₂ := hD.le hl₀₂
    have hla₂ := hl₀₂ _ _ hla
    have hva₂ := hl₀₂ _ _ hva
    have hL₂ := hL.le hl₀₂
    have e0₂ := hl₂ _ _ e0
    clear F₁₂
    iterate 16 walk1
    rename_i oq sq dq Fq
    refine l_sub (by kby_int) (At.ofB hva₂) (map_getElem? _ hq) (by omega) ?_
    obtain ⟨_, _, _, _, iv⟩ := hD₂.var q hq
    obtain ⟨as, ep, hd1, hd2, hd3⟩ := hdep.ex
    have hq' : as[q]? = some as[q] := List.getElem?_eq_getElem (by omega)
    obtain ⟨kd, hrow⟩ := hd3 q _ hq'
    replace hd2 := (on₂ (10, 100) (by decide)).trans hd2
    replace hrow := (on₂ (10, q) (by simp)).trans hrow
    generalize as[q] = a at hq' hrow
    have hdd : dedup (depOf D.n (G.map (·.2)) q) = depOf D.n (G.map (·.2)) q := dedup_id (List.nodup_range.filter _)
    rw [hdd] at hrow
    walk1
    refine sub_dict (k := q) (vs := as.map .ref) (by kby_int) Cc (by kd_p) ⟨At.ofV (i := (10, 100)) (by dl_mem), fun j hj => hD₂.id j (by simp [hd1] at hj; exact hj), by simp [hd1]; omega⟩ (hD₂.id q hq) (by rw [List.getElem?_map, hq']; rfl) fun s₁₄ F₁₄ => ?_
    clear F₁₃
    have CcB := Cc.le F₁₄.z
    have hrow' : (V₂.put (11, 10) ((L + 1 + 1 + 1), oq)) (10, q) = some (a, listO ((depOf D.n (G.map (·.2)) q).map (idV D)) kd) := (put_other _ _ (by simp)).trans hrow
    have hdl : (depOf D.n (G.map (·.2)) q).length ≤ 5 := Nat.le_trans (List.length_filter_le _ _) (by rw [List.length_range]; exact hn5)
    refine lc_none (i := (14, 1)) (Out := fun B' j zs => ∀ p, (depOf D.n (G.map (·.2)) q)[j]? = some p → ∃ t, zs = if (fun _ : Nat => true) p = true then [.int ((fun x : Nat => (x : Int)) p) t] else []) F₁₄ (Src.list hA.h (At.ofV hrow')) (loop1 (fun _ => True) (by rw [List.length_map, sizeLine_eq]; omega) CcB (fun B' D ys n hl => At.ofV (i := (10, q)) ((put_other _ _ (by simp)).trans hrow')) (fun _ _ _ _ _ h => h) trivial ?_) ?_
    · intro C' Dd j v ys nn R₁ B₁ m₁ s₁₅ hj hP hl _ _ Cc₁ F₁₅
      rw [List.getElem?_map] at hP
      obtain ⟨p, hp, rfl⟩ := Option.map_eq_some_iff.mp hP
      have hpn : p < D.n := List.mem_range.mp (List.mem_filter.mp (List.mem_of_getElem? hp)).1
      obtain ⟨_, _, ip⟩ := (hD₂.le hl).id p hpn
      unfold idV
      clear CcB F₁₄
      repeat walk1
      rw [show ((p : Int) + 1 - 1) = (p : Int) by omega]
      exact Leaf.mk ⟨_, _, View.le.refl _, fun p' hp' => ⟨_, by obtain rfl : p = p' := Option.some.inj (hp.symm.trans hp'); rfl⟩, trivial, by kby_int⟩
    intro lq B₁₅ zs kq s₁₅ hl₁₅ hcat F₁₅
    have hZ : IntsAre zs (natsI (depOf D.n (G.map (·.2)) q)) := by
      have h1 := cat_ints (c := fun _ : Nat => true) (g := fun x : Nat => (x : Int)) hcat (by simp)
      rw [List.length_map, List.take_length] at h1
      rw [List.filter_eq_self.mpr (fun _ _ => rfl)] at h1
      exact h1
    clear hcat F₁₄ CcB
    have hzl := hZ.length
    rw [List.length_map] at hzl
    have hinc : (natsI (depOf D.n (G.map (·.2)) q)).Pairwise (· ≤ ·) := by
      rw [natsI, List.pairwise_map]
      exact ((range_inc D.n).filter _).imp fun {a b} h => by omega
    repeat walk1
    refine s_sorted (i := (15, 2)) F₁₅ ⟨_, (F₁₅.v (14, 1) _ _ (put_self _ _ _)).1, rfl, kq, rfl⟩ hZ (by omega) hinc fun b ws kb s₁₆ hW F₁₆ => ?_
    clear F₁₅
    repeat walk1
    refine c_range (by kby_int) rfl fun rb s₁₇ u₅ u₆ u₇ hbr₂ F₁₇ => ?_
    have hlr₂ := vput_le (o := rangeO D.n u₅ u₆ u₇) hbr₂
    have hrb : (B₁₅.put rb (rangeO D.n u₅ u₆ u₇)) rb = some (rangeO D.n u₅ u₆ u₇) := vput_self _ _ _
    generalize B₁₅.put rb (rangeO D.n u₅ u₆ u₇) = B₁₇ at F₁₇ hlr₂ hrb
    clear F₁₆
    have hl₂₁₇ := hl₁₅.trans hlr₂
    have hla₁₇ := hl₂₁₇ _ _ hla₂
    have hL₁₇ := hL₂.le hl₂₁₇
    have CcB := Cc.le F₁₇.z
    repeat walk1
    refine lc_none (i := (15, 3)) (Out := fun B' j zs => ∀ p, (List.range D.n)[j]? = some p → ∃ t, zs = if (fun j : Nat => j != q && ((Ld q).contains j || (Ld j).contains q)) p = true then [.int ((fun x : Nat => (x : Int)) p) t] else []) F₁₇ (Src.range hA.h hrb (by omega)) (loop1 (fun _ => True) (by rw [sizeLine_eq]; omega) CcB (fun _ _ _ _ _ => trivial) (fun _ _ _ _ _ h => h) trivial ?_) ?_
    · intro C' Dd j v ys nn R₁ B₁ m₁ s₁₈ hj hP hl _ _ Cc₁ F₁₈
      obtain ⟨uj, rfl⟩ := hP
      have hla₁ := hl _ _ hla₁₇
      obtain ⟨x, ws1, k1, hx1, hx2, hx3, hx4⟩ := (hL₁₇.le hl).2 q hq
      obtain ⟨y, ws2, k2, hy1, hy2, hy3, hy4⟩ := (hL₁₇.le hl).2 j hj
      have hx5 : (FL.map Value.ref)[q]? = some (.ref x) := by rw [List.getElem?_map, hx1]; rfl
      have hy5 : (FL.map Value.ref)[j]? = some (.ref y) := by rw [List.getElem?_map, hy1]; rfl
      have hrj : (List.range D.n)[j]? = some j := List.getElem?_range hj
      clear CcB F₁₇
      iterate 9 walk1
      rename_i s₁₉ F₁₉
      clear F₁₈
      have eb : ((j : Int) != (q : Int)) = (j != q) := by
        rw [Bool.eq_iff_iff]; simp only [bne_iff_ne, ne_eq]; omega
      rw [eb]
      have leaf0 : (fun j : Nat => j != q && ((Ld q).contains j || (Ld j).contains q)) j = false → ∀ p', (List.range D.n)[j]? = some p' → ∃ t, ([] : List Value) = if (fun j : Nat => j != q && ((Ld q).contains j || (Ld j).contains q)) p' = true then [.int ((fun x : Nat => (x : Int)) p') t] else [] := fun h p' hp' => ⟨0, by
        obtain rfl : j = p' := Option.some.inj (hrj.symm.trans hp')
        rw [h]; rfl⟩
      have leaf1 : (fun j : Nat => j != q && ((Ld q).contains j || (Ld j).contains q)) j = true → ∀ p', (List.range D.n)[j]? = some p' → ∃ t, [Value.int (j : Int) uj] = if (fun j : Nat => j != q && ((Ld q).contains j || (Ld j).contains q)) p' = true then [.int ((fun x : Nat => (x : Int)) p') t] else [] := fun h p' hp' => ⟨uj, by
        obtain rfl : j = p' := Option.some.inj (hrj.symm.trans hp')
        rw [h]; rfl⟩
      cases hjq : j != q
      · repeat walk1
        exact Leaf.mk ⟨_, _, View.le.refl _, leaf0 (by simp only [hjq]; rfl), trivial, F₁₉⟩
      · iterate 8 walk1
        refine l_sub (by kby_int) (At.ofB hla₁) hx5 (by omega) ?_
        refine in_list_ints (vs := ws1) (ns := natsI (Ld q)) (s_listB (by assumption) hx2) hx3 ?_
        rw [natsI_any]
        cases hc1 : (Ld q).contains j
        · iterate 8 walk1
          refine l_sub (by kby_int) (At.ofB hla₁) hy5 (by omega) ?_
          refine in_list_ints (vs := ws2) (ns := natsI (Ld j)) (s_listB (by assumption) hy2) hy3 ?_
          rw [natsI_any]
          cases hc2 : (Ld j).contains q
          · repeat walk1
            exact Leaf.mk ⟨_, _, View.le.refl _, leaf0 (by simp only [hjq, hc1, hc2]; rfl), trivial, by kby_int⟩
          · repeat walk1
            exact Leaf.mk ⟨_, _, View.le.refl _, leaf1 (by simp only [hjq, hc1, hc2]; rfl), trivial, by kby_int⟩
        · repeat walk1
          exact Leaf.mk ⟨_, _, View.le.refl _, leaf1 (by simp only [hjq, hc1]; rfl), trivial, by kby_int⟩
    intro lr B₁₈ zs2 kr s₁₈ hl₁₈ hcat F₁₈
    have hZ2 : IntsAre zs2 (natsI ((List.range D.n).filter fun j : Nat => j != q && ((Ld q).contains j || (Ld j).contains q))) := by
      have h1 := cat_ints (c := fun j : Nat => j != q && ((Ld q).contains j || (Ld j).contains q)) (g := fun x : Nat => (x : Int)) hcat (by simp)
      rw [List.take_of_length_le (by simp)] at h1
      exact h1
    have edep : depOf D.n (G.map (·.2)) q = (List.range D.n).filter fun j : Nat => j != q && ((Ld q).contains j || (Ld j).contains q) := by
      unfold depOf
      refine List.filter_congr fun j hj => ?_
      have hj := List.mem_range.mp hj
      have m1 : mem (G.map (·.2)) q j = (Ld q).contains j := by
        rw [Bool.eq_iff_iff, mem_iff, hGm]; simp [hq, hj]
      have m2 : mem (G.map (·.2)) j q = (Ld j).contains q := by
        rw [Bool.eq_iff_iff, mem_iff, hGm]; simp [hq, hj]
      rw [m1, m2]
    rw [← edep] at hZ2
    clear hcat F₁₇ CcB
    refine ne_intsK (ns := natsI (depOf D.n (G.map (·.2)) q)) (ms := natsI (depOf D.n (G.map (·.2)) q)) (vs := ws) (us := zs2) ⟨_, (F₁₈.v (15, 2) _ _ (by dl_mem)).1, rfl, kb, rfl⟩ hW ⟨_, (F₁₈.v (15, 3) _ _ (put_self _ _ _)).1, rfl, kr, rfl⟩ hZ2 (by have := hA.u; show A.units + 64 < 9900; omega) ?_
    rw [show (!decide (natsI (depOf D.n (G.map (·.2)) q) = natsI (depOf D.n (G.map (·.2)) q))) = false by simp]
    repeat walk1
    refine BodyEnd.next ⟨B₁₈, _, m₂, hl₁₅.trans (hlr₂.trans hl₁₈), ⟨hl₂.trans (hl₁₅.trans (hlr₂.trans hl₁₈)), by repeat (first | exact on₂ | refine Only.put ?_ (by decide) _), by dl_mem, by dl_mem, ⟨oq, _, by dl_mem, dq⟩, hmn⟩, F₁₈⟩
  rintro B₁₃ V₁₃ m₁₃ s₁₃ hl₁₃ ⟨_, on₁₃, v11₁₃, _, _, hmn⟩ F₁₃
  clear F₁₂
  dsimp only
  obtain ⟨as, ep, hd1, hd2, hd3⟩ := hdep.ex
  replace hd2 := (on₁₃ (10, 100) (by decide)).trans hd2
  repeat walk1
  refine d_len F₁₃ hns hd2 (by rw [List.length_map]; omega) fun s₁₄ t₁₄ F₁₄ => ?_
  rw [List.length_map, hd1]
  clear F₁₃
  repeat walk1
  rw [show ((D.n : Int) == (D.n : Int)) = true by simp]
  dsimp only
  exact h B₁₃ V₁₃ m₁₃ s₁₄ (hl₀₁₂.trans hl₁₃) ((on0.mono (by decide)).trans (on₁₃.mono (by decide))) F₁₄
end

end
section
theorem clsName_ltCps {x y : Nat} (hx : x < 3) (hy : y < 3) : ltCps (clsName x).cps.toList (clsName y).cps.toList = decide (x < y) := by
  match x, y, hx, hy with
  | 0, 0, _, _ => decide +kernel
  | 0, 1, _, _ => decide +kernel
  | 0, 2, _, _ => decide +kernel
  | 1, 0, _, _ => decide +kernel
  | 1, 1, _, _ => decide +kernel
  | 1, 2, _, _ => decide +kernel
  | 2, 0, _, _ => decide +kernel
  | 2, 1, _, _ => decide +kernel
  | 2, 2, _, _ => decide +kernel
theorem rising_nat : ∀ (l : List Nat) (p : Nat), p < 3 → (∀ x ∈ l, x < 3) → risingS (clsName p) (l.map clsName) = true → (p :: l).Pairwise (· ≤ ·)
  | [], p, _, _, _ => by simp
  | x :: r, p, hp, hl, h => by
    have hx := hl x List.mem_cons_self
    have h' : (!ltCps (clsName x).cps.toList (clsName p).cps.toList && risingS (clsName x) (r.map clsName)) = true := h
    rw [clsName_ltCps hx hp, Bool.and_eq_true] at h'
    have hle : p ≤ x := by have := h'.1; simp at this; omega
    have ih := rising_nat r x hx (fun y hy => hl y (List.mem_cons_of_mem _ hy)) h'.2
    refine List.pairwise_cons.mpr ⟨fun y hy => ?_, ih⟩
    rcases List.mem_cons.mp hy with e | hy
    · omega
    · have := (List.pairwise_cons.mp ih).1 y hy
      omega
theorem sorted_nat {l : List Nat} (hl : ∀ x ∈ l, x < 3) (h : sortedS (l.map clsName) = true) : l.Pairwise (· ≤ ·) := by
  cases l with
  | nil => exact .nil
  | cons x r => exact rising_nat r x (hl x List.mem_cons_self) (fun y hy => hl y (List.mem_cons_of_mem _ hy)) h
theorem perm_map_inv {α β : Type} {f : α → β} : ∀ {l : List α} {ss : List β}, ss.Perm (l.map f) → ∃ l' : List α, ss = l'.map f ∧ l'.Perm l := by
  intro l ss h
  have key : ∀ {a b : List β}, a.Perm b → ∀ l : List α, b = l.map f → ∃ l' : List α, a = l'.map f ∧ l'.Perm l := by
    intro a b h
    induction h with
    | nil => intro l e; exact ⟨[], rfl, by cases l with
        | nil => exact .refl _
        | cons x r => cases e⟩
    | cons x _ ih =>
      intro l e
      cases l with
      | nil => cases e
      | cons y r =>
        rw [List.map_cons] at e
        injection e with e1 e2
        obtain ⟨l', h1, h2⟩ := ih r e2
        exact ⟨y :: l', by rw [List.map_cons, h1, e1], h2.cons y⟩
    | swap x y l0 =>
      intro l e
      match l, e with
      | a :: b :: r, e =>
        rw [List.map_cons, List.map_cons] at e
        injection e with e1 e2
        injection e2 with e2 e3
        exact ⟨b :: a :: r, by rw [List.map_cons, List.map_cons, e1, e2, e3], .swap _ _ _⟩
    | trans _ _ ih1 ih2 =>
      intro l e
      obtain ⟨l1, h1, h2⟩ := ih2 l e
      obtain ⟨l2, h3, h4⟩ := ih1 l1 h1
      exact ⟨l2, h3, h4.trans h2⟩
  exact key h l rfl
section
variable {prog : Program} {w : World} {A : Around} {E : Value → Shared → Prop} {s₀ s : Shared} {R Z B : View} {V : Dyn} {L l : Addr} {m : Str → Option Value} {i : Nat × Nat} {vs : List Value} {cs : List Nat}
/-- sorted of class names -/
theorem s_sortedS {Q : Value → Shared → Prop} (F : St s₀ R Z B V L m s) (hl : s.heap.IsList l vs.toArray) (hS : StrsAre vs (cs.map clsName)) (h64 : vs.length < 64) (hc : ∀ x ∈ cs, x < 3)
    (h : ∀ b (ws : List Value) (cs' : List Nat) k s', StrsAre ws (cs'.map clsName) → cs'.Perm cs → cs'.Pairwise (· ≤ ·) → St s₀ R Z B (V.put i (b, listO ws k)) L m s' → Q (.ref b) s') : wpAny (model prog w) A (call (.builtin "sorted") [.ref l]) Q E s := by
  refine sorted_strs hl hS h64 fun out ss' hS' hp hs' => ?_
  obtain ⟨cs', rfl, hp'⟩ := perm_map_inv hp
  have F₁ : St s₀ R Z B V L m { s with heap := sortedAll s.heap vs out, toks := s.toks } := F.keep fun b o e => sortedAll_old e
  obtain ⟨e, he⟩ := sortedAll_at s.heap vs out
  have n1 : s.heap.get? (s.heap.objs.size + 1) = none := get_size_none _ (Nat.le_succ _)
  obtain ⟨fR, fB, fV⟩ := F.fresh n1
  refine h _ out.toList cs' e _ hS' hp' (sorted_nat (fun x hx => hc x (hp'.mem_iff.mp hx)) hs') ?_
  have := F₁.addV (i := i) he fR fB fV (fun q => F.ne_fresh n1 q.symm)
  simpa using this
end

end
section
theorem clsName_abc {j : Nat} (hj : j < 3) : Str.ofString "m." ++ ({ cps := #[65 + j] } : Str) = clsName j := by
  match j, hj with
  | 0, _ => decide +kernel
  | 1, _ => decide +kernel
  | 2, _ => decide +kernel
theorem strsAre_append {vs ws : List Value} {ns ms : List Str} (h : StrsAre vs ns) (h' : StrsAre ws ms) : StrsAre (vs ++ ws) (ns ++ ms) := by
  induction h with
  | nil => exact h'
  | cons n t _ ih => exact .cons n t ih
theorem cat_strs {α : Type} {T : List α} {c : α → Bool} {g : α → Str} {n : Nat} {zs : List Value} (h : Cat (fun q zs => ∀ p, T[q]? = some p → ∃ t, zs = if c p = true then [.str (g p) t] else []) n zs) : n ≤ T.length → StrsAre zs (((T.take n).filter c).map g) := by
  induction h with
  | zero => intro _; simp; exact .nil
  | @succ n ys zs _ o ih =>
    intro hn
    have hlt : n < T.length := by omega
    obtain ⟨t, ht⟩ := o T[n] (List.getElem?_eq_getElem hlt)
    have ih := ih (by omega)
    have e : T.take (n + 1) = T.take n ++ [T[n]] := by rw [List.take_add_one, List.getElem?_eq_getElem hlt]; rfl
    rw [e, List.filter_append, List.map_append]
    refine strsAre_append ih ?_
    rw [ht]
    by_cases hc : c T[n] = true
    · rw [if_pos hc, List.filter_cons_of_pos hc]; exact .cons _ _ .nil
    · rw [if_neg hc, List.filter_cons_of_neg hc]; exact .nil
theorem perm_of_mem {l l' : List Nat} (h1 : l.Nodup) (h2 : l'.Nodup) (h : ∀ x, x ∈ l ↔ x ∈ l') : l.Perm l' := (List.perm_ext_iff_of_nodup h1 h2).mpr h
theorem sorted_eq {l l' : List Nat} (h : l.Perm l') (s1 : l.Pairwise (· ≤ ·)) (s2 : l'.Pairwise (· ≤ ·)) : l = l' :=
  List.Perm.eq_of_pairwise (le := (· ≤ ·)) (fun _ _ _ _ h1 h2 => Nat.le_antisymm h1 h2) s1 s2 h
theorem strL_lay (l : List Nat) : PyData.canLayAll0 ((l.map clsName).map PyData.str) = true := by
  induction l with
  | nil => rfl
  | cons q l ih => rw [List.map_cons, List.map_cons]; show (PyData.canLay0 _ && PyData.canLayAll0 _) = true; rw [ih, show PyData.canLay0 (.str (clsName q)) = true by simp [PyData.canLay0, clsName_ok]]; rfl
theorem strL_depth (l : List Nat) : PyData.depthAll ((l.map clsName).map PyData.str) ≤ 2 := by
  induction l with
  | nil => simp [PyData.depthAll]
  | cons q l ih => rw [List.map_cons, List.map_cons]; simp only [PyData.depthAll, PyData.depth]; omega
theorem strL_shaped (l : List Nat) : PySem.SeqAt.shaped (.list ((l.map clsName).map PyData.str)) = true := by
  have h2 := strL_depth l
  show (PyData.canLay0 _ && decide _) = true
  rw [show PyData.canLay0 (.list ((l.map clsName).map PyData.str)) = PyData.canLayAll0 ((l.map clsName).map PyData.str) from rfl, strL_lay]
  have : PyData.depth (.list ((l.map clsName).map PyData.str)) ≤ 64 := by simp only [PyData.depth]; omega
  simpa using this
section
variable {prog : Program} {w : World} {A : Around} {E : Value → Shared → Prop} {s₀ s : Shared} {R Z B : View} {V : Dyn} {L la ll lh va g dl du : Addr} {m mg mb : Str → Option Value} {n kl kll klh kv : Nat} {D : Dom} {t : Tok} {TL TH : List (Addr × Pr)} {FL : List Addr} {Ld : Nat → List Nat} {lo up : Nat → List Nat} {vk : Option Value}
theorem l_abc {value slice : Expr} {j : Nat} {t u : Tok} {Q : Value → Shared → Prop} (F : St s₀ R Z B V L m s) (hj : j < 3) (h : ∀ s' t', St s₀ R Z B V L m s' → Q (.str ⟨#[65 + j]⟩ t') s')
    (hs : subscripted slice false (.str (Str.ofString "ABC") t) (.int (j : Int) u) = operate [.str (Str.ofString "ABC") t, .int (j : Int) u] (getItem (.str (Str.ofString "ABC") t) (.int (j : Int) u)) := by with_unfolding_all rfl) :
    wpAny (model prog w) A (subscriptTail value slice (.str (Str.ofString "ABC") t) (.int (j : Int) u)) Q E s := by
  refine tail_any (typeIs_str s _ _) (PySem.F.slot_str_getitem).lookup (PySem.P.getItem_str (c := 65 + j) ?_ ?_ (h _ _ (F.toks (tk := s.toks + 1)))) hs
  · match j, hj with
    | 0, _ => decide
    | 1, _ => decide
    | 2, _ => decide
  · match j, hj with
    | 0, _ => decide +kernel
    | 1, _ => decide +kernel
    | 2, _ => decide +kernel
theorem St.dropPut {i : Nat × Nat} {p : Addr × Obj} (F : St s₀ R Z B (V.put i p) L m s) (hn : V i = none) : St s₀ R Z B V L m s :=
  F.dropV fun j p' e => by
    unfold Dyn.put
    by_cases h : j = i
    · subst h; rw [hn] at e; cases e
    · rw [if_neg h]; exact e
set_option maxHeartbeats 4000000 in
theorem ph_H {Q : Flow → Shared → Prop} (F : St s₀ R Z B V L m s) (Cc : Cx w mg mb Z) (hA : Lv 30 A) (hD : DomOK D B)
    (hm2 : m (Str.ofString "lowers") = some (.ref dl)) (hm3 : m (Str.ofString "uppers") = some (.ref du)) (hlo : RowsAt D V 3 dl lo) (hup : RowsAt D V 2 du up)
    (hla : B la = some (listO (FL.map .ref) kl)) (hL : LdAt B FL Ld D.n) (hva : B va = some (listO ((List.range D.n).map fun j => .ref (D.var j)) kv)) (k0 : CloAt B (L + 1 + 1 + 1 + 1 + 1 + 1 + 1 + 1 + 1 + 1 + 1 + 1 + 1) (.ref va))
    (hll : B ll = some (listO (TL.map aval) kll)) (hTL : TupL B TL) (hTL9 : TL.length ≤ 9) (hTLn : ∀ p ∈ TL, p.2.1 < D.n)
    (hlh : B lh = some (listO (TH.map aval) klh)) (hTH : TupL B TH) (hTH9 : TH.length ≤ 9) (hTHn : ∀ p ∈ TH, p.2.1 < D.n)
    (hlom : ∀ k, k < D.n → ∀ j, j < 3 → (j ∈ lo k ↔ ∃ p ∈ TL, p.2.2 = j ∧ k ∈ Ld p.2.1)) (hupm : ∀ k, k < D.n → ∀ j, j < 3 → (j ∈ up k ↔ ∃ p ∈ TH, p.2.2 = j ∧ p.2.1 ∈ Ld k))
    (h : ∀ B' V' m' s', B.le B' → Only [11, 14, 15, 16] V V' → (∀ j, j ≠ 10 → V' (11, j) = V (11, j)) → (∃ v, CellV w.params L V' 10 (L + 1 + 1 + 1) (Str.ofString "k") v) → (∀ x, x ≠ Str.ofString "low" → x ≠ Str.ofString "high" → m' x = m x) → St s₀ R Z B' V' L m' s' → wpAny (model prog w) A (execs ((lawB w.params).drop 20) (lawEnv w.params L)) Q E s')
    (c11 : CellV w.params L V 11 (L + 1 + 1) (Str.ofString "size") (some (.int (D.n : Int) t))) (c10 : CellV w.params L V 10 (L + 1 + 1 + 1) (Str.ofString "k") vk) (c7 : CellV w.params L V 7 (L + 1 + 1 + 1 + 1 + 1 + 1) (Str.ofString "leads") (some (.ref la)))
    (c9 : CellV w.params L V 9 (L + 1 + 1 + 1 + 1) (Str.ofString "lows") (some (.ref ll))) (c8 : CellV w.params L V 8 (L + 1 + 1 + 1 + 1 + 1) (Str.ofString "highs") (some (.ref lh))) :
    wpAny (model prog w) A (execs ((lawB w.params).drop 19) (lawEnv w.params L)) Q E s := by
  have lk11 := c11.lk
  have lk10 := c10.lk
  have lk9 := c9.lk
  have lk8 := c8.lk
  have lk7 := c7.lk
  have lk0 : (lawEnv w.params L).cells.lookup (Str.ofString "variables") = some (L + 1 + 1 + 1 + 1 + 1 + 1 + 1 + 1 + 1 + 1 + 1 + 1 + 1) := rfl
  have lk10' := lk10
  obtain ⟨o11, v11, d11⟩ := c11.ex
  obtain ⟨o10, v10, d10⟩ := c10.ex
  obtain ⟨o9, v9, d9⟩ := c9.ex
  obtain ⟨o8, v8, d8⟩ := c8.ex
  obtain ⟨o7, v7, d7⟩ := c7.ex
  obtain ⟨o0, e0, d0⟩ := k0.ex
  clear c11 c10 c9 c8 c7 k0
  dsimp only [lawB, lawInfo, lawEnv, List.drop] at lk11 lk10 lk9 lk8 lk7 lk0 ⊢
  have hn5 := hD.n5
  generalize hV0 : V.del (16, 1) = V₀
  have F₀ : St s₀ R Z B V₀ L m s := hV0 ▸ F.dropV fun i p e => by unfold Dyn.del at e; split at e <;> first | cases e | exact e
  have on0 : Only [16] V V₀ := hV0 ▸ (Only.refl _ _).del (by decide)
  have hn16 : V₀ (16, 1) = none := by rw [← hV0]; unfold Dyn.del; rw [if_pos rfl]
  clear hV0 F
  replace v11 := (on0 _ (by decide)).trans v11
  replace v10 := (on0 _ (by decide)).trans v10
  replace v9 := (on0 _ (by decide)).trans v9
  replace v8 := (on0 _ (by decide)).trans v8
  replace v7 := (on0 _ (by decide)).trans v7
  replace hlo := hlo.only on0 (by decide)
  replace hup := hup.only on0 (by decide)
  walk1
  refine wpAny_For ?_
  repeat walk1
  refine c_range (by kby_int) rfl fun ra s₁₂ u₂ u₃ u₄ hbr F₁₂ => ?_
  have hlr := vput_le (o := rangeO D.n u₂ u₃ u₄) hbr
  have hra : (B.put ra (rangeO D.n u₂ u₃ u₄)) ra = some (rangeO D.n u₂ u₃ u₄) := vput_self _ _ _
  generalize B.put ra (rangeO D.n u₂ u₃ u₄) = B₁₂ at F₁₂ hlr hra
  replace e0 := hlr _ _ e0
  clear F₀
  refine for_src (fun i B' V' m' => B₁₂.le B' ∧ Only [11, 14, 15, 16] V₀ V' ∧ (∀ j, j ≠ 10 → V' (11, j) = V₀ (11, j)) ∧ (∃ o v, V' (11, 10) = some ((L + 1 + 1 + 1), o) ∧ o.data = .cell v) ∧ V' (16, 1) = none ∧ (∀ x, x ≠ Str.ofString "low" → x ≠ Str.ofString "high" → m' x = m x))
    F₁₂ (Src.range hA.h hra (by omega)) ⟨View.le.refl _, Only.refl _ _, fun _ _ => rfl, ⟨o10, _, v10, d10⟩, hn16, fun _ _ _ => rfl⟩ (fun _ _ _ _ _ _ => trivial) ?_ ?_
  · rintro q v R₂ B₂ V₂ m₂ s₁₃ hq ⟨uq, rfl⟩ hl₂ ⟨_, on₂, h11₂, ⟨ok, vk', vk10, dk⟩, hn16₂, hmm⟩ F₁₃
    have hl₀₂ := hlr.trans hl₂
    have hD₂ := hD.le hl₀₂
    have hla₂ := hl₀₂ _ _ hla
    have hva₂ := hl₀₂ _ _ hva
    have hL₂ := hL.le hl₀₂
    have e0₂ := hl₂ _ _ e0
    have v9₂ := (h11₂ 9 (by decide)).trans v9
    have v8₂ := (h11₂ 8 (by decide)).trans v8
    have v7₂ := (h11₂ 7 (by decide)).trans v7
    have hm2₂ := (hmm _ (by decide +kernel) (by decide +kernel)).trans hm2
    have hm3₂ := (hmm _ (by decide +kernel) (by decide +kernel)).trans hm3
    have hlo₂ := hlo.only on₂ (by decide)
    have hup₂ := hup.only on₂ (by decide)
    have CcB := Cc.le F₁₃.z
    clear F₁₂
    iterate 3 walk1
    refine x_AssignListComp ?_
    iterate 6 walk1
    rename_i oq sq dq Fq
    refine l_sub (by kby_int) (At.ofB hva₂) (map_getElem? _ hq) (by omega) ?_
    obtain ⟨_, _, _, _, iv⟩ := hD₂.var q hq
    walk1
    refine sub_row (c := 3) (d := dl) (f := lo) (by kby_int) Cc (by kd_p) hD₂ (hlo₂.only (l := [11]) ((Only.refl _ _).put (by decide) _) (by decide)) hq fun aq kq s₁₄ hrow F₁₄ => ?_
    clear F₁₃ Fq
    refine lc_asg (i := (14, 2)) (Out := fun B' j zs => ∀ p, (lo q)[j]? = some p → ∃ t, zs = if (fun _ : Nat => true) p = true then [.str (clsName p) t] else []) F₁₄ (Src.list hA.h (At.ofV hrow)) (loop1 (fun _ => True) (by rw [List.length_map, sizeLine_eq]; have := hlo.len hq; omega) CcB (fun B' D ys n hl => At.ofV (i := (3, q)) ((put_other _ _ (by simp)).trans hrow)) (fun _ _ _ _ _ h => h) trivial ?_) ?_
    · intro C' Dd j v ys nn R₁ B₁ m₁ s₁₅ hj hP hl _ _ Cc₁ F₁₅
      rw [List.getElem?_map] at hP
      obtain ⟨p, hp, rfl⟩ := Option.map_eq_some_iff.mp hP
      have hp3 : p < 3 := hlo.lt q hq p (List.mem_of_getElem? hp)
      have ic := (hD₂.le hl).cls p hp3
      obtain ⟨_, _, it⟩ := (hD₂.le hl).ti p hp3
      unfold clsV
      clear CcB F₁₄
      repeat walk1
      exact Leaf.mk ⟨_, _, View.le.refl _, fun p' hp' => ⟨_, by obtain rfl : p = p' := Option.some.inj (hp.symm.trans hp'); rfl⟩, trivial, by kby_int⟩
    intro lw B₁₅ zs kw s₁₅ hl₁₅ hcat F₁₅
    have hZlo : StrsAre zs ((lo q).map clsName) := by
      have h1 := cat_strs (c := fun _ : Nat => true) (g := clsName) hcat (by simp)
      rw [List.length_map, List.take_length] at h1
      rw [List.filter_eq_self.mpr (fun _ _ => rfl)] at h1
      exact h1
    clear hcat F₁₄
    have hZlol : zs.length ≤ 3 := by rw [hZlo.length, List.length_map]; exact hlo.len hq
    have hD₁₅ := hD₂.le hl₁₅
    replace e0₂ := hl₁₅ _ _ e0₂
    replace hva₂ := hl₁₅ _ _ hva₂
    have CcB := Cc.le F₁₅.z
    iterate 1 walk1
    refine x_AssignListComp ?_
    iterate 6 walk1
    refine l_sub (by kby_int) (At.ofB hva₂) (map_getElem? _ hq) (by omega) ?_
    obtain ⟨_, _, _, _, iv⟩ := hD₁₅.var q hq
    walk1
    refine sub_row (c := 2) (d := du) (f := up) (by kby_int) Cc (by kd_p) hD₁₅ (hup₂.only (l := [11, 14]) (((Only.refl _ _).put (by decide) _).put (by decide) _) (by decide)) hq fun aq kq s₁₆ hrow F₁₆ => ?_
    clear F₁₅
    refine lc_asg (i := (14, 3)) (Out := fun B' j zs => ∀ p, (up q)[j]? = some p → ∃ t, zs = if (fun _ : Nat => true) p = true then [.str (clsName p) t] else []) F₁₆ (Src.list hA.h (At.ofV hrow)) (loop1 (fun _ => True) (by rw [List.length_map, sizeLine_eq]; have := hup.len hq; omega) CcB (fun B' D ys n hl => At.ofV (i := (2, q)) ((put_other _ _ (by simp)).trans hrow)) (fun _ _ _ _ _ h => h) trivial ?_) ?_
    · intro C' Dd j v ys nn R₁ B₁ m₁ s₁₇ hj hP hl _ _ Cc₁ F₁₇
      rw [List.getElem?_map] at hP
      obtain ⟨p, hp, rfl⟩ := Option.map_eq_some_iff.mp hP
      have hp3 : p < 3 := hup.lt q hq p (List.mem_of_getElem? hp)
      have ic := (hD₁₅.le hl).cls p hp3
      obtain ⟨_, _, it⟩ := (hD₁₅.le hl).ti p hp3
      unfold clsV
      clear CcB F₁₆
      repeat walk1
      exact Leaf.mk ⟨_, _, View.le.refl _, fun p' hp' => ⟨_, by obtain rfl : p = p' := Option.some.inj (hp.symm.trans hp'); rfl⟩, trivial, by kby_int⟩
    intro hw B₁₇ zs2 kh s₁₇ hl₁₇ hcat F₁₇
    have hZup : StrsAre zs2 ((up q).map clsName) := by
      have h1 := cat_strs (c := fun _ : Nat => true) (g := clsName) hcat (by simp)
      rw [List.length_map, List.take_length] at h1
      rw [List.filter_eq_self.mpr (fun _ _ => rfl)] at h1
      exact h1
    clear hcat F₁₆
    have hZupl : zs2.length ≤ 3 := by rw [hZup.length, List.length_map]; exact hup.len hq
    have hD₁₇ := hD₁₅.le hl₁₇
    repeat walk1
    refine s_sortedS (i := (15, 2)) F₁₇ ⟨_, (F₁₇.v (14, 2) _ _ (by dl_mem)).1, rfl, kw, rfl⟩ hZlo (by omega) (hlo.lt q hq) fun b ws cs' kb s₁₈ hW hp1 hs1 F₁₈ => ?_
    clear F₁₇
    repeat walk1
    refine c_range (N := 3) (by kby_int) rfl fun ra₂ s₁₉ u₅ u₆ u₇ hbr₂ F₁₉ => ?_
    have hlr₂ := vput_le (o := rangeO 3 u₅ u₆ u₇) hbr₂
    have hra₂ : (B₁₇.put ra₂ (rangeO 3 u₅ u₆ u₇)) ra₂ = some (rangeO 3 u₅ u₆ u₇) := vput_self _ _ _
    generalize B₁₇.put ra₂ (rangeO 3 u₅ u₆ u₇) = B₁₉ at F₁₉ hlr₂ hra₂
    clear F₁₈
    have CcB := Cc.le F₁₉.z
    repeat walk1
    refine lc_noneC (i := (14, 1)) (q := (16, 0)) (x := Str.ofString "j") (Out := fun B' j zs => ∀ p, (List.range 3)[j]? = some p → ∃ t, zs = if (fun j : Nat => TL.any fun p => p.2.2 == j && (Ld p.2.1).contains q) p = true then [.str (clsName p) t] else []) F₁₉ (Src.range hA.h hra₂ (by omega)) (loop1C (fun _ => True) (by rw [sizeLine_eq]; omega) (by decide) CcB (fun _ _ _ _ _ _ => trivial) (fun _ _ _ _ _ h => h) trivial ?_) ?_
    · intro C' Dd j v ys nn R₁ B₁ m₁ s₂₀ oc vc hj hP hl _ _ Cc₁ hoc F₂₀
      obtain ⟨uj, rfl⟩ := hP
      have hll₁ := hl _ _ (hlr₂ _ _ (hl₁₇ _ _ (hl₁₅ _ _ (hl₀₂ _ _ hll))))
      have hL₁ := (hL₂.le (hl₁₅.trans (hl₁₇.trans (hlr₂.trans hl))))
      clear CcB F₁₉
      walk1
      refine e_stC (by kby_int) (by rfl) (by dl_mem) hoc ?_
      intro oj s₂₁ hdj F₂₁
      clear F₂₀
      repeat walk1
      have Cc₁' := Cc₁.le F₂₁.z
      refine lc_none (i := (16, 1)) (Out := fun B' jj zs => ∀ p, TL[jj]? = some p → ∃ t, zs = if (fun p : Addr × Pr => p.2.2 == j && (Ld p.2.1).contains q) p = true then [.int ((fun p : Addr × Pr => (p.2.1 : Int)) p) t] else []) F₂₁ (Src.list hA.h (At.ofB hll₁)) (loop1 (fun _ => True) (by rw [List.length_map, sizeLine_eq]; omega) Cc₁' (fun B' D ys n hl => At.ofB (hl _ _ hll₁)) (fun _ _ _ _ _ h => h) trivial ?_) ?_
      · intro C'' Dd' jj v' ys' nn' R₃ B₃ m₃ s₂₂ hjj hP' hl₃ _ _ Cc₃ F₂₂
        rw [List.getElem?_map] at hP'
        obtain ⟨p, hp, rfl⟩ := Option.map_eq_some_iff.mp hP'
        have hpm := List.mem_of_getElem? hp
        obtain ⟨tp1, tp2, hpt⟩ := hTL p hpm
        have hpn := hTLn p hpm
        replace hpt := hl₃ _ _ (hl _ _ (hlr₂ _ _ (hl₁₇ _ _ (hl₁₅ _ _ (hl₀₂ _ _ hpt)))))
        have hla₃ := hl₃ _ _ (hl _ _ (hlr₂ _ _ (hl₁₇ _ _ (hl₁₅ _ _ hla₂))))
        obtain ⟨x, ws1, k1, hx1, hx2, hx3, hx4⟩ := (hL₁.le hl₃).2 p.2.1 hpn
        have hx5 : (FL.map Value.ref)[p.2.1]? = some (.ref x) := by rw [List.getElem?_map, hx1]; rfl
        clear Cc₁' Cc₁ F₂₁
        unfold aval
        refine unpack2 F₂₂ hA.h hpt fun s₂₃ F₂₃ => ?_
        clear F₂₂
        have leafB : ∀ c, (fun p : Addr × Pr => p.2.2 == j && (Ld p.2.1).contains q) p = c → ∀ p', TL[jj]? = some p' → ∃ t, (if c = true then [Value.int (p.2.1 : Int) tp1] else []) = if (fun p : Addr × Pr => p.2.2 == j && (Ld p.2.1).contains q) p' = true then [.int ((fun p : Addr × Pr => (p.2.1 : Int)) p') t] else [] := fun c h p' hp' => ⟨tp1, by
          obtain rfl : p = p' := Option.some.inj (hp.symm.trans hp')
          rw [h]⟩
        repeat walk1
        · rename_i he
          refine l_sub (by kby_int) (At.ofB hla₃) hx5 (by omega) ?_
          refine in_list_ints (vs := ws1) (ns := natsI (Ld p.2.1)) (s_listB (by assumption) hx2) hx3 ?_
          rw [natsI_any]
          have he' : p.2.2 = j := by omega
          cases hc : (Ld p.2.1).contains q
          · repeat walk1
            exact Leaf.mk ⟨_, _, View.le.refl _, leafB false (by dsimp only; rw [hc, Bool.and_false]), trivial, by kby_int⟩
          · repeat walk1
            exact Leaf.mk ⟨_, _, View.le.refl _, leafB true (by dsimp only; rw [hc, he']; simp), trivial, by kby_int⟩
        · rename_i he
          have he' : ¬ p.2.2 = j := by omega
          exact Leaf.mk ⟨_, _, View.le.refl _, leafB false (by simp [he']), trivial, by kby_int⟩
      intro li B₂₂ zs3 ki s₂₂ hl₂₂ hcat F₂₂
      have hZ3 : IntsAre zs3 ((TL.filter fun p : Addr × Pr => p.2.2 == j && (Ld p.2.1).contains q).map fun p : Addr × Pr => (p.2.1 : Int)) := by
        have h1 := cat_ints (c := fun p : Addr × Pr => p.2.2 == j && (Ld p.2.1).contains q) (g := fun p : Addr × Pr => (p.2.1 : Int)) hcat (by simp)
        rw [List.length_map, List.take_length] at h1
        exact h1
      clear hcat F₂₁ Cc₁'
      repeat walk1
      refine n_listB F₂₂ fun le s₂₃ hbe F₂₃ => ?_
      have hle := vput_le (o := listO [] 0) hbe
      refine ne_intsK (ms := []) ⟨_, (F₂₃.v (16, 1) _ _ (put_self _ _ _)).1, rfl, ki, rfl⟩ hZ3 (s_listB (ws := []) F₂₃ (vput_self _ _ _)) .nil (by have := hA.u; show A.units + 64 < 9900; omega) ?_
      have hany : (!decide (((TL.filter fun p : Addr × Pr => p.2.2 == j && (Ld p.2.1).contains q).map fun p : Addr × Pr => (p.2.1 : Int)) = [])) = (TL.any fun p : Addr × Pr => p.2.2 == j && (Ld p.2.1).contains q) := by
        rw [Bool.eq_iff_iff]
        simp only [Bool.not_eq_true', decide_eq_false_iff_not, List.map_eq_nil_iff, List.filter_eq_nil_iff, List.any_eq_true]
        simp
      rw [hany]
      generalize B₂₂.put le (listO [] 0) = B₂₃ at F₂₃ hle
      have F₂₄ := F₂₃.dropPut (by repeat (first | exact hn16₂ | refine (put_other _ _ (by decide)).trans ?_))
      clear F₂₂ F₂₃
      have hrj : (List.range 3)[j]? = some j := List.getElem?_range hj
      cases hc : TL.any fun p : Addr × Pr => p.2.2 == j && (Ld p.2.1).contains q
      · repeat walk1
        exact Leaf.mk ⟨_, _, oj, _, hl₂₂.trans hle, fun p' hp' => ⟨0, by obtain rfl : j = p' := Option.some.inj (hrj.symm.trans hp'); rw [if_neg (by rw [hc]; decide)]⟩, trivial, hdj, F₂₄⟩
      · repeat walk1
        refine l_abc (by kby_int) hj fun s₂₅ t₂₅ F₂₅ => ?_
        clear F₂₄
        repeat walk1
        rw [clsName_abc hj]
        exact Leaf.mk ⟨B₂₃, _, oj, _, hl₂₂.trans hle, fun p' hp' => ⟨_, by obtain rfl : j = p' := Option.some.inj (hrj.symm.trans hp'); rw [if_pos hc]⟩, trivial, hdj, by kby_int⟩
    intro lr B₂₀ zs4 k4 cp s₂₀ hl₂₀ hcat F₂₀
    have hZ4 : StrsAre zs4 (((List.range 3).filter fun j : Nat => TL.any fun p => p.2.2 == j && (Ld p.2.1).contains q).map clsName) := by
      have h1 := cat_strs (c := fun j : Nat => TL.any fun p => p.2.2 == j && (Ld p.2.1).contains q) (g := clsName) hcat (by simp)
      rw [List.take_of_length_le (by simp)] at h1
      exact h1
    clear hcat F₁₉ CcB
    have hZ4l : zs4.length ≤ 3 := by rw [hZ4.length, List.length_map]; exact Nat.le_trans (List.length_filter_le _ _) (by rw [List.length_range]; omega)
    repeat walk1
    refine s_sortedS (i := (15, 3)) F₂₀ ⟨_, (F₂₀.v (14, 1) _ _ (put_self _ _ _)).1, rfl, k4, rfl⟩ hZ4 (by omega) (fun x hx => List.mem_range.mp (List.mem_filter.mp hx).1) fun b₂ ws₂ cs₂ kb₂ s₂₁ hW₂ hp2 hs2 F₂₁ => ?_
    clear F₂₀
    obtain rfl : cs' = cs₂ := by
      refine sorted_eq ((hp1.trans (perm_of_mem (hlo.nd q hq) (List.nodup_range.filter _) fun x => ?_)).trans hp2.symm) hs1 hs2
      rw [List.mem_filter, List.mem_range, List.any_eq_true]
      constructor
      · intro hx
        have hx3 := hlo.lt q hq x hx
        obtain ⟨p, h1, h2, h3⟩ := (hlom q hq x hx3).mp hx
        exact ⟨hx3, p, h1, by simp [h2, h3]⟩
      · rintro ⟨hx3, p, h1, h2⟩
        simp only [Bool.and_eq_true, beq_iff_eq, List.contains_iff_mem] at h2
        exact (hlom q hq x hx3).mpr ⟨p, h1, h2.1, h2.2⟩
    refine ne_dataH (da := .list ((cs'.map clsName).map PyData.str)) (db := .list ((cs'.map clsName).map PyData.str)) (Reads.list (F₂₁.v (15, 2) _ _ (by dl_mem)).1 rfl rfl (hW.reads _)) (Reads.list (F₂₁.v (15, 3) _ _ (put_self _ _ _)).1 rfl rfl (hW₂.reads _)) (strL_shaped _) (strL_shaped _) (by have := hA.u; show A.units + 64 < 9900; omega) ?_
    rw [show (!PyData.eqv (.list ((cs'.map clsName).map PyData.str)) (.list ((cs'.map clsName).map PyData.str))) = false by rw [PySem.SeqAt.eqv_refl _ (PySem.SeqAt.canLay_of_shaped (strL_shaped _))]; rfl]
    clear hW₂ hZ4
    repeat walk1
    refine s_sortedS (i := (15, 2)) F₂₁ ⟨_, (F₂₁.v (14, 3) _ _ (by dl_mem)).1, rfl, kh, rfl⟩ hZup (by omega) (hup.lt q hq) fun b ws cs' kb s₃₀ hW hp1 hs1 F₃₀ => ?_
    clear F₂₁
    repeat walk1
    refine c_range (N := 3) (by kby_int) rfl fun ra₃ s₃₁ u₅ u₆ u₇ hbr₃ F₃₁ => ?_
    have hlr₃ := vput_le (o := rangeO 3 u₅ u₆ u₇) hbr₃
    have hra₃ : (B₂₀.put ra₃ (rangeO 3 u₅ u₆ u₇)) ra₃ = some (rangeO 3 u₅ u₆ u₇) := vput_self _ _ _
    generalize B₂₀.put ra₃ (rangeO 3 u₅ u₆ u₇) = B₃₁ at F₃₁ hlr₃ hra₃
    clear F₃₀
    have CcB := Cc.le F₃₁.z
    repeat walk1
    refine lc_noneC (i := (14, 1)) (q := (16, 0)) (x := Str.ofString "j") (Out := fun B' j zs => ∀ p, (List.range 3)[j]? = some p → ∃ t, zs = if (fun j : Nat => TH.any fun p => p.2.2 == j && (Ld q).contains p.2.1) p = true then [.str (clsName p) t] else []) F₃₁ (Src.range hA.h hra₃ (by omega)) (loop1C (fun _ => True) (by rw [sizeLine_eq]; omega) (by decide) CcB (fun _ _ _ _ _ _ => trivial) (fun _ _ _ _ _ h => h) trivial ?_) ?_
    · intro C' Dd j v ys nn R₁ B₁ m₁ s₃₂ oc vc hj hP hl _ _ Cc₁ hoc F₃₂
      obtain ⟨uj, rfl⟩ := hP
      have hlh₁ := hl _ _ (hlr₃ _ _ (hl₂₀ _ _ (hlr₂ _ _ (hl₁₇ _ _ (hl₁₅ _ _ (hl₀₂ _ _ hlh))))))
      have hL₁ := (hL₂.le (hl₁₅.trans (hl₁₇.trans (hlr₂.trans (hl₂₀.trans (hlr₃.trans hl))))))
      clear CcB F₃₁
      walk1
      refine e_stC (by kby_int) (by rfl) (by dl_mem) hoc ?_
      intro oj s₃₃ hdj F₃₃
      clear F₃₂
      repeat walk1
      have Cc₁' := Cc₁.le F₃₃.z
      refine lc_none (i := (16, 1)) (Out := fun B' jj zs => ∀ p, TH[jj]? = some p → ∃ t, zs = if (fun p : Addr × Pr => p.2.2 == j && (Ld q).contains p.2.1) p = true then [.int ((fun p : Addr × Pr => (p.2.1 : Int)) p) t] else []) F₃₃ (Src.list hA.h (At.ofB hlh₁)) (loop1 (fun _ => True) (by rw [List.length_map, sizeLine_eq]; omega) Cc₁' (fun B' D ys n hl => At.ofB (hl _ _ hlh₁)) (fun _ _ _ _ _ h => h) trivial ?_) ?_
      · intro C'' Dd' jj v' ys' nn' R₃ B₃ m₃ s₃₄ hjj hP' hl₃ _ _ Cc₃ F₃₄
        rw [List.getElem?_map] at hP'
        obtain ⟨p, hp, rfl⟩ := Option.map_eq_some_iff.mp hP'
        have hpm := List.mem_of_getElem? hp
        obtain ⟨tp1, tp2, hpt⟩ := hTH p hpm
        have hpn := hTHn p hpm
        replace hpt := hl₃ _ _ (hl _ _ (hlr₃ _ _ (hl₂₀ _ _ (hlr₂ _ _ (hl₁₇ _ _ (hl₁₅ _ _ (hl₀₂ _ _ hpt)))))))
        have hla₃ := hl₃ _ _ (hl _ _ (hlr₃ _ _ (hl₂₀ _ _ (hlr₂ _ _ (hl₁₇ _ _ (hl₁₅ _ _ hla₂))))))
        obtain ⟨x, ws1, k1, hx1, hx2, hx3, hx4⟩ := (hL₁.le hl₃).2 q hq
        have hx5 : (FL.map Value.ref)[q]? = some (.ref x) := by rw [List.getElem?_map, hx1]; rfl
        clear Cc₁' Cc₁ F₃₃
        unfold aval
        refine unpack2 F₃₄ hA.h hpt fun s₃₅ F₃₅ => ?_
        clear F₃₄
        have leafB : ∀ c, (fun p : Addr × Pr => p.2.2 == j && (Ld q).contains p.2.1) p = c → ∀ p', TH[jj]? = some p' → ∃ t, (if c = true then [Value.int (p.2.1 : Int) tp1] else []) = if (fun p : Addr × Pr => p.2.2 == j && (Ld q).contains p.2.1) p' = true then [.int ((fun p : Addr × Pr => (p.2.1 : Int)) p') t] else [] := fun c h p' hp' => ⟨tp1, by
          obtain rfl : p = p' := Option.some.inj (hp.symm.trans hp')
          rw [h]⟩
        repeat walk1
        · rename_i he
          refine l_sub (by kby_int) (At.ofB hla₃) hx5 (by omega) ?_
          refine in_list_ints (vs := ws1) (ns := natsI (Ld q)) (s_listB (by assumption) hx2) hx3 ?_
          rw [natsI_any]
          have he' : p.2.2 = j := by omega
          cases hc : (Ld q).contains p.2.1
          · repeat walk1
            exact Leaf.mk ⟨_, _, View.le.refl _, leafB false (by dsimp only; rw [hc, Bool.and_false]), trivial, by kby_int⟩
          · repeat walk1
            exact Leaf.mk ⟨_, _, View.le.refl _, leafB true (by dsimp only; rw [hc, he']; simp), trivial, by kby_int⟩
        · rename_i he
          have he' : ¬ p.2.2 = j := by omega
          exact Leaf.mk ⟨_, _, View.le.refl _, leafB false (by simp [he']), trivial, by kby_int⟩
      intro li B₃₄ zs3 ki s₃₄ hl₃₄ hcat F₃₄
      have hZ3 : IntsAre zs3 ((TH.filter fun p : Addr × Pr => p.2.2 == j && (Ld q).contains p.2.1).map fun p : Addr × Pr => (p.2.1 : Int)) := by
        have h1 := cat_ints (c := fun p : Addr × Pr => p.2.2 == j && (Ld q).contains p.2.1) (g := fun p : Addr × Pr => (p.2.1 : Int)) hcat (by simp)
        rw [List.length_map, List.take_length] at h1
        exact h1
      clear hcat F₃₃ Cc₁'
      repeat walk1
      refine n_listB F₃₄ fun le s₃₅ hbe F₃₅ => ?_
      have hle := vput_le (o := listO [] 0) hbe
      refine ne_intsK (ms := []) ⟨_, (F₃₅.v (16, 1) _ _ (put_self _ _ _)).1, rfl, ki, rfl⟩ hZ3 (s_listB (ws := []) F₃₅ (vput_self _ _ _)) .nil (by have := hA.u; show A.units + 64 < 9900; omega) ?_
      have hany : (!decide (((TH.filter fun p : Addr × Pr => p.2.2 == j && (Ld q).contains p.2.1).map fun p : Addr × Pr => (p.2.1 : Int)) = [])) = (TH.any fun p : Addr × Pr => p.2.2 == j && (Ld q).contains p.2.1) := by
        rw [Bool.eq_iff_iff]
        simp only [Bool.not_eq_true', decide_eq_false_iff_not, List.map_eq_nil_iff, List.filter_eq_nil_iff, List.any_eq_true]
        simp
      rw [hany]
      generalize B₃₄.put le (listO [] 0) = B₃₅ at F₃₅ hle
      have F₃₆ := F₃₅.dropPut (by repeat (first | exact hn16₂ | refine (put_other _ _ (by decide)).trans ?_))
      clear F₃₄ F₃₅
      have hrj : (List.range 3)[j]? = some j := List.getElem?_range hj
      cases hc : TH.any fun p : Addr × Pr => p.2.2 == j && (Ld q).contains p.2.1
      · repeat walk1
        exact Leaf.mk ⟨_, _, oj, _, hl₃₄.trans hle, fun p' hp' => ⟨0, by obtain rfl : j = p' := Option.some.inj (hrj.symm.trans hp'); rw [if_neg (by rw [hc]; decide)]⟩, trivial, hdj, F₃₆⟩
      · repeat walk1
        refine l_abc (by kby_int) hj fun s₃₇ t₃₇ F₃₇ => ?_
        clear F₃₆
        repeat walk1
        rw [clsName_abc hj]
        exact Leaf.mk ⟨B₃₅, _, oj, _, hl₃₄.trans hle, fun p' hp' => ⟨_, by obtain rfl : j = p' := Option.some.inj (hrj.symm.trans hp'); rw [if_pos hc]⟩, trivial, hdj, by kby_int⟩
    intro lr B₃₂ zs4 k4 cp s₃₂ hl₃₂ hcat F₃₂
    have hZ4 : StrsAre zs4 (((List.range 3).filter fun j : Nat => TH.any fun p => p.2.2 == j && (Ld q).contains p.2.1).map clsName) := by
      have h1 := cat_strs (c := fun j : Nat => TH.any fun p => p.2.2 == j && (Ld q).contains p.2.1) (g := clsName) hcat (by simp)
      rw [List.take_of_length_le (by simp)] at h1
      exact h1
    clear hcat F₃₁ CcB
    have hZ4l : zs4.length ≤ 3 := by rw [hZ4.length, List.length_map]; exact Nat.le_trans (List.length_filter_le _ _) (by rw [List.length_range]; omega)
    repeat walk1
    refine s_sortedS (i := (15, 3)) F₃₂ ⟨_, (F₃₂.v (14, 1) _ _ (put_self _ _ _)).1, rfl, k4, rfl⟩ hZ4 (by omega) (fun x hx => List.mem_range.mp (List.mem_filter.mp hx).1) fun b₂ ws₂ cs₂ kb₂ s₃₃ hW₂ hp2 hs2 F₃₃ => ?_
    clear F₃₂
    obtain rfl : cs' = cs₂ := by
      refine sorted_eq ((hp1.trans (perm_of_mem (hup.nd q hq) (List.nodup_range.filter _) fun x => ?_)).trans hp2.symm) hs1 hs2
      rw [List.mem_filter, List.mem_range, List.any_eq_true]
      constructor
      · intro hx
        have hx3 := hup.lt q hq x hx
        obtain ⟨p, h1, h2, h3⟩ := (hupm q hq x hx3).mp hx
        exact ⟨hx3, p, h1, by simp [h2, h3]⟩
      · rintro ⟨hx3, p, h1, h2⟩
        simp only [Bool.and_eq_true, beq_iff_eq, List.contains_iff_mem] at h2
        exact (hupm q hq x hx3).mpr ⟨p, h1, h2.1, h2.2⟩
    refine ne_dataH (da := .list ((cs'.map clsName).map PyData.str)) (db := .list ((cs'.map clsName).map PyData.str)) (Reads.list (F₃₃.v (15, 2) _ _ (by dl_mem)).1 rfl rfl (hW.reads _)) (Reads.list (F₃₃.v (15, 3) _ _ (put_self _ _ _)).1 rfl rfl (hW₂.reads _)) (strL_shaped _) (strL_shaped _) (by have := hA.u; show A.units + 64 < 9900; omega) ?_
    rw [show (!PyData.eqv (.list ((cs'.map clsName).map PyData.str)) (.list ((cs'.map clsName).map PyData.str))) = false by rw [PySem.SeqAt.eqv_refl _ (PySem.SeqAt.canLay_of_shaped (strL_shaped _))]; rfl]
    clear hW₂ hZ4
    repeat walk1
    have hlE := hl₁₅.trans (hl₁₇.trans (hlr₂.trans (hl₂₀.trans (hlr₃.trans hl₃₂))))
    refine BodyEnd.next ⟨B₃₂, _, _, hlE, ⟨hl₂.trans hlE, by repeat (first | exact on₂ | refine Only.put ?_ (by decide) _), fun j hj => by repeat (first | exact h11₂ j hj | refine (put_other _ _ (by simp [hj])).trans ?_), ⟨oq, _, by dl_mem, dq⟩, by repeat (first | exact hn16₂ | refine (put_other _ _ (by decide)).trans ?_), fun x h1 h2 => (if_neg h2).trans ((if_neg h1).trans (hmm x h1 h2))⟩, F₃₃⟩
  rintro B₁₃ V₁₃ m₁₃ s₁₃ hl₁₃ ⟨_, on₁₃, h11₁₃, ⟨ok, vk', vk10, dk⟩, _, hmm⟩ F₁₃
  dsimp only
  refine h B₁₃ V₁₃ m₁₃ s₁₃ (hlr.trans hl₁₃) ((on0.mono (by decide)).trans on₁₃) (fun j hj => (h11₁₃ j hj).trans (on0 _ (by simp))) ⟨vk', ⟨⟨ok, vk10, dk⟩, lk10'⟩⟩ hmm F₁₃
end

end
section
/-- all but the code table of the law -/
def Zof (h : Heap) : View := fun a => if a = 432 then none else h.get? a
def Vof : Dyn := fun i => if i = (12, 0) then some (432, tabObj #[]) else none
theorem Zof_some {h : Heap} {a : Addr} {o : Obj} (e : h.get? a = some o) (hn : a ≠ 432) : Zof h a = some o := by unfold Zof; rw [if_neg hn]; exact e
theorem Zof_get {h : Heap} {a : Addr} {o : Obj} (e : Zof h a = some o) : h.get? a = some o ∧ a ≠ 432 := by
  unfold Zof at e
  split at e
  · cases e
  · rename_i h; exact ⟨e, h⟩
theorem Vof_some {i : Nat × Nat} {p : Addr × Obj} (e : Vof i = some p) : i = (12, 0) ∧ p = (432, tabObj #[]) := by
  unfold Vof at e
  split at e
  · rename_i h; exact ⟨h, (Option.some.inj e).symm⟩
  · cases e
theorem top_start {s : Shared} (h : s.heap.get? 432 = some (tabObj #[])) : Fz s (fun _ => none) (Zof s.heap) (Zof s.heap) Vof s := by
  refine ⟨fun a o e => (nomatch e), fun a o e => ⟨(Zof_get e).1, rfl⟩, fun i a o e => ?_, fun i j a o o' e e' => ?_, ⟨rfl, rfl, rfl⟩, View.le.refl _⟩
  · have := (Vof_some e).2
    cases this
    exact ⟨h, rfl, by unfold Zof; rw [if_pos rfl]⟩
  · rw [(Vof_some e).1, (Vof_some e').1]
section
variable {prog : Program} {w : World} {A : Around} {E : Value → Shared → Prop} {s₀ s s' : Shared} {R R' Z B : View} {V : Dyn} {L a b l c L' : Addr} {m m' cm mg mb : Str → Option Value} {env : Env} {k n : Nat} {i : Nat × Nat} {o : Obj}
/-- a new frame with cells, on no other frame -/
theorem Fz.enterC {cs : List (Str × Addr)} (cr : Nat) (F : Fz s₀ R Z B V s) (hn : s.heap.get? L' = none) (hge : s.heap.objs.size ≤ L') (x : InCallC s L' m' cs cm s') (hnd : (cs.map (·.1)).Nodup) :
    ∃ rows, CellRows cs cm rows ∧ St s₀ R Z B (rowsV V cr rows) L' m' s' := by
  obtain ⟨h', tk, e, kp⟩ := x.done
  subst e
  obtain ⟨fR, fB, fV⟩ := F.fresh hn
  have F' : St s₀ R Z B V L' m' { s with heap := h', toks := tk } := ⟨F.keep kp, x.toInCall.ns, fR, fB, fV⟩
  have fresh : ∀ c, L' < c → s.heap.get? c = none := fun c hc => get_size_none _ (Nat.le_of_lt (Nat.lt_of_le_of_lt hge hc))
  have key : ∀ (done rest : List (Str × Addr)), cs = done ++ rest → ∀ rows, CellRows done cm rows → (∀ p ∈ rows, ∃ q ∈ done, q.2 = p.1) → St s₀ R Z B (rowsV V cr rows) L' m' { s with heap := h', toks := tk } →
      ∃ rows, CellRows cs cm rows ∧ St s₀ R Z B (rowsV V cr rows) L' m' { s with heap := h', toks := tk } := by
    intro done rest
    induction rest generalizing done with
    | nil => intro e rows hr _ F; rw [List.append_nil] at e; subst e; exact ⟨rows, hr, F⟩
    | cons nc rest ih =>
      obtain ⟨nm, c⟩ := nc
      intro e rows hr hin F₁
      have hmem : (nm, c) ∈ cs := by rw [e]; simp
      have hgt := x.above nm c hmem
      have hlk : cs.lookup nm = some c := lookup_of_mem_nodup hnd hmem
      obtain ⟨o, ho, hd⟩ := x.cell nm c hlk
      have hsn := fresh c hgt
      obtain ⟨hRc, hBc, hVc'⟩ := F.fresh hsn
      have hVc : ∀ i p, rowsV V cr rows i ≠ some (c, p) := fun i p q => by
        rcases rowsV_some q with h | h
        · obtain ⟨q', hq', e'⟩ := hin _ h
          have hp := x.apart
          rw [e, List.pairwise_append] at hp
          exact hp.2.2 q' hq' (nm, c) (by simp) e'
        · exact hVc' i p h
      have F₂ := F₁.addV (i := (cr, rows.length)) ho hRc hBc hVc (fun h => by rw [h] at hgt; exact Nat.lt_irrefl _ hgt)
      rw [rowsV_snoc] at F₂
      refine ih (done ++ [(nm, c)]) (by rw [e]; simp) (rows ++ [(c, o)]) ⟨by simp [hr.1], fun j n' c' hj => ?_⟩ (fun p hp => ?_) F₂
      · by_cases h : j < done.length
        · rw [List.getElem?_append_left h] at hj
          obtain ⟨o', h1, h2⟩ := hr.2 j n' c' hj
          exact ⟨o', by rw [List.getElem?_append_left (by rw [hr.1]; exact h)]; exact h1, h2⟩
        · have hj' : j = done.length := by
            have := (List.getElem?_eq_some_iff.mp hj).1; simp at this; omega
          subst hj'
          simp at hj
          obtain ⟨rfl, rfl⟩ := hj
          exact ⟨o, by rw [← hr.1]; simp, hd⟩
      · rcases List.mem_append.mp hp with h | h
        · obtain ⟨q, hq, e'⟩ := hin p h; exact ⟨q, List.mem_append_left _ hq, e'⟩
        · simp at h; subst h; exact ⟨(nm, c), by simp, rfl⟩
  exact key [] cs rfl [] ⟨rfl, fun j n c h => by simp at h⟩ (fun p h => by cases h) (by rw [rowsV_nil]; exact F')
theorem call_top {f : Addr} {oc : Value} {od : Option Addr} {osl : Array (Option Value)} {nm qual : Str} {params : Arguments} {body : List Stmt} {scope : Scope} {dV kV doc pm cdv ct : Value} {an : Option Addr} {args : List Value} {binds : List (Str × Value)} {Q : Result → Shared → Prop}
    (cr : Nat) (F : Fz s₀ R Z B V s) (Cc : Cx w mg mb Z) (hA : Lv n A)
    (ho : List.lookup f (hd.heap_39 w.params) = some ⟨oc, od, .func (fnOf nm qual params body scope dV kV doc pm an cdv ct), osl⟩)
    (hcd : codeIn (hd.heap_39 w.params) cdv qual = true)
    (hbind : BindsTo s (fnOf nm qual params body scope dV kV doc pm an cdv ct) ⟨args, []⟩ binds)
    (hkind : ∀ n, ∀ x ∈ binds, scope.names.lookup x.1 = some .local ∨ (scope.names.lookup x.1 = some .cell ∧ ((cellsFrom n scope.names []).lookup x.1).isSome = true))
    (hnd : ((cellsFrom 0 scope.names []).map (·.1)).Nodup)
    (h : ∀ L' s' rows, CellRows (cellsFrom (L' + 1) scope.names []) (bindC (envOfC qual scope L' f cdv).kindOf binds fun _ => none) rows → St s₀ R Z B (rowsV V cr rows) L' (bindL (envOfC qual scope L' f cdv).kindOf binds fun _ => none) s' →
      (∀ (j : Nat) (n : Str) (c : Addr), (cellsFrom (L' + 1) scope.names [])[j]? = some (n, c) → (envOfC qual scope L' f cdv).cells.lookup n = some c) →
      wpAny (model prog w) (A.deeper (envOfC qual scope L' f cdv)) (execs body (envOfC qual scope L' f cdv)) (fun fl s'' => Q (.ok (.ret (retOf fl))) s'') (fun _ _ => False) s')
    (hco : scope.isCoroutine = false := by rfl) (hgen : scope.isGenerator = false := by rfl) (hk : scope.kind = .function := by rfl) :
    codeAny (model prog w) A (.call (.ref f) ⟨args, []⟩) Q s := by
  have X := Cc.kin F
  refine codeAny_call_function (fd := fnOf nm qual params body scope dV kV doc pm an cdv ct) (body := body) hA.room (X _ _ ho) rfl hco hgen rfl (codeRec_of X hcd) (hbind _ _ _ _ ?_)
  refine wpAny_newFunctionEnv_cells hk (hkind _) fun env' he s' x => ?_
  subst he
  obtain ⟨rows, hr, F'⟩ := F.enterC cr (get_fresh s.heap) (Nat.le_refl _) x (cellsFrom_names scope.names 0 (s.heap.objs.size + 1) [] [] rfl ▸ hnd)
  refine ⟨(Cc.nolim F).keeps x.toInCall.keep, codeAny_func ?_⟩
  refine wpAny_mono (h _ s' rows hr F' fun j n c hj => lookup_of_mem_nodup (cellsFrom_names scope.names 0 (s.heap.objs.size + 1) [] [] rfl ▸ hnd) (List.mem_of_getElem? hj)) (fun fl s'' q => ?_) fun _ _ e => e.elim
  cases fl <;> exact q
end

end
section
open PySem.SetTable
section
variable {prog : Program} {w : World} {A : Around} {E : Value → Shared → Prop} {s : Shared} {S I D : Addr} {es : Array (Int × Value)} {ep : Nat} {t : SetTable} {T : List Row} {fp : List Addr} {St : Nat → Heap → Prop} {X : List Value} {R : Result → Shared → Prop}
theorem ext_loop (item : ∀ i (s : Shared) v (Q : Option Value → Shared → Prop) (E : Value → Shared → Prop), X[i]? = some v → St i s.heap → (∀ h', St (i + 1) h' → Heap.SameBut I s.heap h' → Q (some v) { s with heap := h' }) → wpAny (model prog w) A.in1 (pyNext (.ref I)) Q E s)
    (fin : ∀ (s : Shared) (Q : Option Value → Shared → Prop) (E : Value → Shared → Prop), St X.length s.heap → (∀ h', Heap.ExtBut I s.heap h' → Q none { s with heap := h' }) → wpAny (model prog w) A.in1 (pyNext (.ref I)) Q E s)
    (frame : ∀ i h h', St i h → (∀ b ∈ fp, ∀ o, h.get? b = some o → h'.get? b = some o) → St i h') (hDf : D ∉ fp) (hDI : D ≠ I) (hX : X.length ≤ 1000) :
    ∀ (k i : Nat) (s : Shared) (acc : Array Value) (c : Nat), X.length - i = k → i ≤ X.length → St i s.heap → s.heap.get? D = some { cls := .type "list", dict := none, data := .seq acc c, slots := #[] } → acc.toList = X.take i →
      (∀ h' acc' c', (∀ b o, b ≠ D → b ≠ I → s.heap.get? b = some o → h'.get? b = some o) → h'.get? D = some { cls := .type "list", dict := none, data := .seq acc' c', slots := #[] } → acc'.toList = X → R (.ok (.ret (.ref D))) { s with heap := h' }) →
      codeAny (model prog w) A (.builtin "list.extend.loop" ⟨[.ref D, .ref I, .ref D], []⟩) R s := by
  intro k
  induction k with
  | zero =>
    intro i s acc c hk hi hst hS hacc hR
    have hin : i = X.length := by omega
    subst hin
    refine codeAny_builtin F.entry_extend_loop ?_
    rw [Around.under_plainId F.plain_extend_loop _]
    show wpAny _ A.in1 (pyNext (.ref I) >>= _) _ _ s
    refine wpAny_bind (fin s _ _ hst fun h' hx => ?_)
    exact wpAny_pure (hR h' acc c (fun b o _ hb e => hx b o hb e) (hx D _ hDI hS) (by rw [hacc, List.take_length]))
  | succ k ih =>
    intro i s acc c hk hi hst hS hacc hR
    have hlt : i < X.length := by omega
    have hsz : acc.size = i := by rw [← Array.length_toList, hacc, List.length_take]; omega
    refine codeAny_builtin F.entry_extend_loop ?_
    rw [Around.under_plainId F.plain_extend_loop _]
    show wpAny _ A.in1 (pyNext (.ref I) >>= _) _ _ s
    refine wpAny_bind (item i s _ _ _ (List.getElem?_eq_getElem hlt) hst fun h₁ hst₁ hs₁ => ?_)
    have hS₁ : h₁.get? D = some { cls := .type "list", dict := none, data := .seq acc c, slots := #[] } := (hs₁.2 D hDI).trans hS
    show wpAny _ A.in1 (updateSeq D (·.push X[i]) >>= _) _ _ _
    refine wpAny_bind ?_
    refine wpAny_updateSeq (s := { s with heap := h₁ }) hS₁ rfl (wpAny_pure ⟨plainId_quiet F.plain_extend_loop _, ih (i + 1) _ (acc.push X[i]) _ (by omega) hlt (frame _ _ _ hst₁ fun b hb o e => ?_) (Heap.get?_update_self _ hS₁ rfl) ?_ fun h₂ acc' c' hk₂ hS₂ hacc' => ?_⟩)
      (by rw [hsz, sizeLine_eq]; omega) (by show (acc.push X[i]).size ≤ sizeLine + 1; rw [Array.size_push, hsz, sizeLine_eq]; omega)
    · exact (Heap.get?_update_other _ _ (fun h : D = b => hDf (by rw [h]; exact hb))).trans e
    · rw [Array.toList_push, hacc, List.take_add_one, List.getElem?_eq_getElem hlt]; rfl
    · refine hR h₂ acc' c' (fun b o hbD hbI e => hk₂ b o hbD hbI ?_) hS₂ hacc'
      refine (Heap.get?_update_other _ _ (fun h : D = b => hbD h.symm)).trans ?_
      exact (hs₁.2 b hbI).trans e
theorem len_hint {Q : Bool → Shared → Prop} (hT : s.TypeIs (.ref S) "set") (h : Q false s) : wpAny (model prog w) A (Builtin.List.listLengthHint (.ref S)) Q E s := by
  unfold Builtin.List.listLengthHint
  refine wpAny_bind (wpAny_specialOf hT F.slot_set_len.lookup ?_)
  dsimp only
  rw [show splitId "set.__len__" = some ("set", "__len__") from by decide +kernel]
  dsimp only
  refine wpAny_bind (wpAny_isInstance (b := true) hT (by rw [isSubtype_type]; kernel_rfl) ?_)
  rw [if_neg (by decide), if_pos (by decide +kernel)]
  refine wpAny_bind (wpAny_typeOf hT ?_)
  dsimp only
  exact wpAny_pure h
/-- the iterator of a set: by places, or drawn -/
theorem set_iter {Q : Value → Shared → Prop} (ho : s.heap.get? S = some (setO es ep t)) (Ok : SetOK t es T) (hled : t.led = ledOf w)
    (h1 : (bt w = true ∨ (t.plain = true ∨ es.size ≤ 1)) → Q (.ref s.heap.objs.size) { s with heap := s.heap.push (itO (.int (slotAt w t 0 : Nat) 0) 0 S T.length ep) })
    (h2 : ∀ ps d, List.Perm ps (List.range T.length) → Q (.ref (s.heap.objs.size + 1)) { s with heap := (s.heap.push (placesO ps)).push (itO (.ref s.heap.objs.size) 0 S T.length ep), drawn := d }) : wpAny (model prog w) A (pyIter (.ref S)) Q E s := by
  have hT : s.TypeIs (.ref S) "set" := ⟨_, ho, rfl⟩
  refine wpAny_pyIter_slot hT F.slot_set_iter (wpAny_call_entry F.slot_set_iter hT entry_s_iter ?_ (F.args_set_iter_1 _))
  unfold Builtin.«frozenset.__iter__» Builtin.Frozenset.slot0
  refine wpAny_bind ?_
  refine wpAny_bind (wpAny_pure ?_)
  unfold Builtin.Frozenset.addrOf
  refine wpAny_pure ?_
  unfold Builtin.Frozenset.sizeOf
  refine wpAny_bind (wpAny_bind (wpAny_setEntries_of ho rfl Ok.fits_ (wpAny_pure ?_)))
  unfold setDrawn setsByText
  refine wpAny_bind (wpAny_bind (wpAny_setState_of ho rfl Ok.fits_ ?_))
  dsimp only
  refine wpAny_bind (wpAny_bind (wpAny_askSetting (wpAny_pure ?_)))
  refine wpAny_pure ?_
  show wpAny _ _ (if (!(bt w) && (!t.plain && decide (es.size > 1))) = true then _ else _) _ _ _
  rw [Ok.esize] at h1
  rw [Ok.esize]
  by_cases hd : (!(bt w) && (!t.plain && decide (T.length > 1))) = true
  · rw [if_pos hd]
    refine wpAny_bind (draw_order _ _ _ _ (by rw [List.length_range]) fun ps d hp => ?_)
    refine wpAny_bind ?_
    simp only [newTuple]
    refine wpAny_newObj_type ?_ (by show (List.map (fun (i : Nat) => rawInt i) ps).toArray.size ≤ sizeLine; rw [List.size_toArray, List.length_map, hp.length_eq, List.length_range, sizeLine_eq]; have := Ok.room; have := Ok.mk7; omega)
    refine wpAny_bind (wpAny_setEpoch_of (s := { s with heap := s.heap.push (placesO ps), drawn := d }) (Heap.get?_push_of_some _ ho) rfl Ok.fits_ ?_)
    refine wpAny_bind (wpAny_newObj_type (wpAny_pure ⟨_, rfl, "set_iterator", _, ⟨_, Heap.get?_push_size _ rfl, rfl⟩, slot_si_next.lookup, ?_⟩))
    have := h2 ps d hp
    rw [show (s.heap.push (placesO ps)).objs.size = s.heap.objs.size + 1 from Heap.size_push ..]
    exact this
  · rw [if_neg hd]
    have hdr : bt w = true ∨ (t.plain = true ∨ T.length ≤ 1) := by
      cases hb : bt w
      · rw [hb] at hd
        right
        cases hpl : t.plain
        · rw [hpl] at hd
          right
          simpa using hd
        · exact .inl rfl
      · exact .inl rfl
    refine wpAny_bind (wpAny_pure ?_)
    refine wpAny_bind (wpAny_setEpoch_of ho rfl Ok.fits_ ?_)
    refine wpAny_bind (wpAny_newObj_type (wpAny_pure ⟨_, rfl, "set_iterator", _, ⟨_, Heap.get?_push_size _ rfl, rfl⟩, slot_si_next.lookup, ?_⟩))
    have := h1 hdr
    rw [show slotAt w t 0 = 0 by unfold slotAt; split <;> rfl] at this
    exact this
theorem touch_ok {acc : Array Value} {c : Nat} {Q : Unit → Shared → Prop} (hD : s.heap.get? D = some { cls := .type "list", dict := none, data := .seq acc c, slots := #[] }) (hz : acc.size ≤ 1000)
    (h : ∀ h' c', h'.get? D = some { cls := .type "list", dict := none, data := .seq acc c', slots := #[] } → Heap.SameBut D s.heap h' → Q () { s with heap := h' }) : wpAny (model prog w) A (Builtin.List.listTouch (.ref D)) Q E s := by
  have seqAt : ∀ (f : Array Value → Array Value) (acc : Array Value) (c : Nat) (h : Heap), h.get? D = some { cls := .type "list", dict := none, data := .seq acc c, slots := #[] } → ∃ c', (h.update D (Obj.mapSeq f)).get? D = some { cls := .type "list", dict := none, data := .seq (f acc) c', slots := #[] } := fun f acc c h e => ⟨_, Heap.get?_update_self (Obj.mapSeq f) e rfl⟩
  unfold Builtin.List.listTouch
  show wpAny _ _ (updateSeq D (·.push .none) >>= fun _ => updateSeq D (·.pop)) _ _ _
  refine wpAny_bind (wpAny_updateSeq hD rfl ?_ (by rw [sizeLine_eq]; omega) (by show (acc.push .none).size ≤ sizeLine + 1; rw [Array.size_push, sizeLine_eq]; omega))
  obtain ⟨c1, e1⟩ := seqAt (·.push .none) acc c _ hD
  refine wpAny_updateSeq (s := { s with heap := s.heap.update D (Obj.mapSeq (·.push .none)) }) e1 rfl ?_ (by rw [Array.size_push, sizeLine_eq]; omega) (by show (acc.push .none).pop.size ≤ sizeLine + 1; rw [Array.pop_push, sizeLine_eq]; omega)
  obtain ⟨c2, e2⟩ := seqAt (·.pop) _ c1 _ e1
  rw [Array.pop_push] at e2
  exact h _ c2 e2 ((Heap.SameBut.update ..).trans (Heap.SameBut.update ..))
theorem collect_set {qs : List (Nat × Nat × Nat)} {vs : List (Addr × Nat × Nat × Nat)} {Q : List Value → Shared → Prop} (hh : A.handled = none) (hS : SetA prog w s.heap S (ledOf w) qs vs)
    (h : ∀ (L Aq : List (Addr × Nat × Nat × Nat)) h' d, L.Perm Aq → Aq.map (·.2) = qs → (∀ p ∈ Aq, p ∈ vs) → (∀ b o, s.heap.get? b = some o → h'.get? b = some o) → s.heap.objs.size ≤ h'.objs.size → Q (L.map fun p => .ref p.1) { s with heap := h', drawn := d }) :
    wpAny (model prog w) A (collect (.ref S)) Q E s := by
  obtain ⟨es, ep, t, T, Aq, ho, Ok, hled, hp, hqs, _, _, hvs⟩ := hS
  have hT : s.TypeIs (.ref S) "set" := ⟨_, ho, rfl⟩
  have hSlt := Heap.lt_size ho
  have hT1000 : T.length ≤ 1000 := by have := Ok.room; have := Ok.mk7; omega
  unfold collect
  refine wpAny_bind (wpAny_runValue (codeAny_builtin F.entry_proto_collect ?_))
  rw [Around.under_plainId F.plain_proto_collect _]
  show wpAny _ A.in1 (newList [] >>= fun l => again (.builtin "list.__iadd__" ⟨[l, .ref S], []⟩)) _ _ s
  refine wpAny_bind (wpAny_newObj_type ?_)
  refine wpAny_pure ⟨plainId_quiet F.plain_list_iadd _, codeAny_builtin F.entry_list_iadd ?_⟩
  rw [Around.under_plainId F.plain_list_iadd _]
  have hD₁ : (s.heap.push { cls := .type "list", data := .seq ([] : List Value).toArray }).get? s.heap.objs.size = some { cls := .type "list", dict := none, data := .seq #[] 0, slots := #[] } := Heap.get?_push_size _ rfl
  have k₁ : ∀ b o, s.heap.get? b = some o → (s.heap.push { cls := .type "list", data := .seq ([] : List Value).toArray }).get? b = some o := fun b o e => Heap.get?_push_of_some _ e
  have sz₁ : (s.heap.push { cls := .type "list", data := .seq ([] : List Value).toArray }).objs.size = s.heap.objs.size + 1 := Heap.size_push ..
  have hne : s.heap.objs.size ≠ S := Nat.ne_of_gt hSlt
  show wpAny _ A.in1 (Builtin.List.listExtendWith (.ref s.heap.objs.size) (.ref S) (.ref s.heap.objs.size)) _ _ _
  generalize hH₁ : s.heap.push { cls := .type "list", data := .seq ([] : List Value).toArray } = H₁ at hD₁ k₁ sz₁ ⊢
  have hS₁ := k₁ _ _ ho
  have hT₁ : Shared.TypeIs { s with heap := H₁ } (.ref S) "set" := ⟨_, hS₁, rfl⟩
  unfold Builtin.List.listExtendWith
  refine wpAny_bind (wpAny_typeOf hT₁ ?_)
  rw [if_neg (by rw [show Builtin.List.listSameRef (.ref s.heap.objs.size) (.ref S) = false by simp [Builtin.List.listSameRef, hne]]; decide)]
  have hes : es.toList.length = T.length := by rw [Array.length_toList, Ok.esize]
  have rowsX : ∀ (X : List (Int × Value)), X.Perm es.toList → ∃ L : List (Addr × Nat × Nat × Nat), X.map (·.2) = L.map (fun p => Value.ref p.1) ∧ L.Perm Aq := fun X hX => by
    have h1 := hX.trans ((List.Perm.of_eq Ok.el).trans hp)
    obtain ⟨L, rfl, hL⟩ := perm_map_inv h1
    exact ⟨L, by rw [List.map_map]; rfl, hL⟩
  have last : ∀ (X : List (Int × Value)) (H₂ h' : Heap) (d : Drawn) (acc' : Array Value) (c' : Nat), X.Perm es.toList → (∀ b o, s.heap.get? b = some o → h'.get? b = some o) → h'.get? s.heap.objs.size = some { cls := .type "list", dict := none, data := .seq acc' c', slots := #[] } → acc'.toList = X.map (·.2) →
      wpAny (model prog w) A (do
        match (← load s.heap.objs.size).data with
        | .seq xs _ => pure xs.toList
        | _ => unsupported "internal:collect") Q E { s with heap := h', drawn := d } := fun X H₂ h' d acc' c' hX hk hD hacc => by
    refine wpAny_bind (wpAny_load hD (wpAny_pure ?_))
    obtain ⟨L, e1, hL⟩ := rowsX X hX
    rw [hacc, e1]
    exact h L Aq h' d hL hqs hvs hk (Nat.le_of_lt (Heap.lt_size hD))
  refine wpAny_bind (set_iter (s := { s with heap := H₁ }) hS₁ Ok hled (fun hdr => ?_) (fun ps d hps => ?_))
  · show wpAny _ _ _ _ _ { s with heap := H₁.push (itO (.int (slotAt w t 0 : Nat) 0) 0 S T.length ep) }
    have hI₂ : (H₁.push (itO (.int (slotAt w t 0 : Nat) 0) 0 S T.length ep)).get? H₁.objs.size = some (itO (.int (slotAt w t 0 : Nat) 0) 0 S T.length ep) := Heap.get?_push_size _ rfl
    have k₂ : ∀ b o, H₁.get? b = some o → (H₁.push (itO (.int (slotAt w t 0 : Nat) 0) 0 S T.length ep)).get? b = some o := fun b o e => Heap.get?_push_of_some _ e
    have hS₂ := k₂ _ _ hS₁
    have hD₂ := k₂ _ _ hD₁
    have hDI : s.heap.objs.size ≠ H₁.objs.size := by rw [sz₁]; exact Nat.ne_of_lt (Nat.lt_succ_self _)
    refine wpAny_bind (wpAny_holding (len_hint ⟨_, hS₂, rfl⟩ ?_))
    rw [if_pos (by decide)]
    refine wpAny_bind (wpAny_rule ?_)
    refine wpAny_bind (touch_ok hD₂ (by simp) fun h₃ c₃ hD₃ hs₃ => ?_)
    have hIne : H₁.objs.size ≠ s.heap.objs.size := Ne.symm hDI
    refine wpAny_pure ⟨plainId_quiet F.plain_extend_loop _, ext_loop (A := A) (I := H₁.objs.size) (X := (outs w S es ep).map (·.2)) (fp := [H₁.objs.size, S]) (St := fun i h => h.get? H₁.objs.size = some (itO (.int (slotAt w t i : Nat) 0) i S T.length ep) ∧ h.get? S = some (setO es ep t))
      (fun i s v Q E hv hst hQ => ?_) (fun s Q E hst hQ => ?_) (fun i h h' hst hk => ⟨hk _ (by simp) _ hst.1, hk _ (by simp) _ hst.2⟩) ?_ hDI (by rw [List.length_map, outs_perm.length_eq, hes]; exact hT1000) _ 0 _ #[] c₃ rfl (Nat.zero_le _) ⟨(hs₃.2 _ hIne).trans hI₂, (hs₃.2 _ (Ne.symm hne)).trans hS₂⟩ hD₃ (by simp) fun h' acc' c' hk' hD' hacc' => ?_⟩
    · rw [List.getElem?_map] at hv
      obtain ⟨e, he, rfl⟩ := Option.map_eq_some_iff.mp hv
      refine it_item hst.1 hst.2 Ok hled hdr he fun h' e1 e2 => hQ h' ⟨e1, (e2.2 S (fun e => ?_)).trans hst.2⟩ e2
      subst e
      have := hst.1.symm.trans hst.2
      injection this with this
      have := congrArg Obj.cls this
      simp at this
    · rw [List.length_map, outs_perm.length_eq, hes] at hst
      exact it_end (show A.in1.handled = none from hh) hst.1 hst.2 Ok hled hdr hQ
    · simp only [List.mem_cons, List.not_mem_nil, or_false, not_or]
      exact ⟨hDI, hne⟩
    · exact last _ H₁ h' s.drawn acc' c' outs_perm (fun b o e => hk' b o (Nat.ne_of_lt (Heap.lt_size e)) (by rw [sz₁]; exact Nat.ne_of_lt (Nat.lt_succ_of_lt (Heap.lt_size e))) ((hs₃.2 b (Nat.ne_of_lt (Heap.lt_size e))).trans (k₂ _ _ (k₁ _ _ e)))) hD' hacc'
  · show wpAny _ _ _ _ _ { s with heap := (H₁.push (placesO ps)).push (itO (.ref H₁.objs.size) 0 S T.length ep), drawn := d }
    have szp : (H₁.push (placesO ps)).objs.size = H₁.objs.size + 1 := Heap.size_push ..
    have hI₂ : ((H₁.push (placesO ps)).push (itO (.ref H₁.objs.size) 0 S T.length ep)).get? (H₁.objs.size + 1) = some (itO (.ref H₁.objs.size) 0 S T.length ep) := by rw [← szp]; exact Heap.get?_push_size _ rfl
    have k₂ : ∀ b o, H₁.get? b = some o → ((H₁.push (placesO ps)).push (itO (.ref H₁.objs.size) 0 S T.length ep)).get? b = some o := fun b o e => Heap.get?_push_of_some _ (Heap.get?_push_of_some _ e)
    have hP₂ : ((H₁.push (placesO ps)).push (itO (.ref H₁.objs.size) 0 S T.length ep)).get? H₁.objs.size = some (placesO ps) := Heap.get?_push_of_some _ (Heap.get?_push_size _ rfl)
    have hS₂ := k₂ _ _ hS₁
    have hD₂ := k₂ _ _ hD₁
    have hDI : s.heap.objs.size ≠ H₁.objs.size + 1 := by rw [sz₁]; omega
    have hDP : s.heap.objs.size ≠ H₁.objs.size := by rw [sz₁]; omega
    refine wpAny_bind (wpAny_holding (len_hint ⟨_, hS₂, rfl⟩ ?_))
    rw [if_pos (by decide)]
    refine wpAny_bind (wpAny_rule ?_)
    refine wpAny_bind (touch_ok hD₂ (by simp) fun h₃ c₃ hD₃ hs₃ => ?_)
    have hXp : (ps.map fun p => (es.toList[p]?).getD (0, .none)).Perm es.toList := by
      refine (hps.map _).trans (List.Perm.of_eq ?_)
      rw [← hes]
      refine List.ext_getElem (by simp) fun i h1 h2 => ?_
      have h3 : i < es.size := by simpa using h2
      simp [h3]
    refine wpAny_pure ⟨plainId_quiet F.plain_extend_loop _, ext_loop (A := A) (I := H₁.objs.size + 1) (X := (ps.map fun p => (es.toList[p]?).getD (0, .none)).map (·.2)) (fp := [H₁.objs.size + 1, S, H₁.objs.size]) (St := fun i h => h.get? (H₁.objs.size + 1) = some (itO (.ref H₁.objs.size) i S T.length ep) ∧ h.get? S = some (setO es ep t) ∧ h.get? H₁.objs.size = some (placesO ps))
      (fun i s v Q E hv hst hQ => ?_) (fun s Q E hst hQ => ?_) (fun i h h' hst hk => ⟨hk _ (by simp) _ hst.1, hk _ (by simp) _ hst.2.1, hk _ (by simp) _ hst.2.2⟩) ?_ hDI (by rw [List.length_map, List.length_map, hps.length_eq, List.length_range]; exact hT1000) _ 0 _ #[] c₃ rfl (Nat.zero_le _) ⟨(hs₃.2 _ (Ne.symm hDI)).trans hI₂, (hs₃.2 _ (Ne.symm hne)).trans hS₂, (hs₃.2 _ (Ne.symm hDP)).trans hP₂⟩ hD₃ (by simp) fun h' acc' c' hk' hD' hacc' => ?_⟩
    · rw [List.getElem?_map, List.getElem?_map] at hv
      obtain ⟨e, he, rfl⟩ := Option.map_eq_some_iff.mp hv
      obtain ⟨p, hpi, rfl⟩ := Option.map_eq_some_iff.mp he
      have hpl : p < es.toList.length := by rw [hes]; exact List.mem_range.mp (hps.mem_iff.mp (List.mem_of_getElem? hpi))
      rw [List.getElem?_eq_getElem hpl] at hQ
      refine dr_item hst.1 hst.2.2 hst.2.1 Ok hpi (List.getElem?_eq_getElem hpl) fun h' e1 e2 => hQ h' ⟨e1, (e2.2 S (fun e => ?_)).trans hst.2.1, (e2.2 _ (Nat.ne_of_lt (Nat.lt_succ_self _))).trans hst.2.2⟩ e2
      have := hst.2.1
      rw [e] at this
      have := hst.1.symm.trans this
      injection this with this
      have := congrArg Obj.cls this
      simp at this
    · rw [List.length_map, List.length_map, hps.length_eq, List.length_range] at hst
      exact dr_end (show A.in1.handled = none from hh) hst.1 hst.2.2 hst.2.1 Ok (by rw [hps.length_eq, List.length_range]) hQ
    · simp only [List.mem_cons, List.not_mem_nil, or_false, not_or]
      exact ⟨hDI, hne, hDP⟩
    · exact last _ H₁ h' d acc' c' hXp (fun b o e => hk' b o (Nat.ne_of_lt (Heap.lt_size e)) (by rw [sz₁]; exact Nat.ne_of_lt (Nat.lt_succ_of_lt (Nat.lt_succ_of_lt (Heap.lt_size e)))) ((hs₃.2 b (Nat.ne_of_lt (Heap.lt_size e))).trans (k₂ _ _ (k₁ _ _ e)))) hD' hacc'
end

end
section
def allAsks : List Ask := (List.range 18).map fun k => (k / 9, k / 3 % 3, k % 3)
theorem askKey_of (k : Nat) : askKey (k / 9, k / 3 % 3, k % 3) = k := by show 9 * (k / 9) + 3 * (k / 3 % 3) + k % 3 = k; omega
theorem allAsks_inc : allAsks.Pairwise fun a b => askKey a < askKey b := by
  unfold allAsks
  rw [List.pairwise_map]
  exact List.pairwise_lt_range.imp fun {a b} h => by rw [askKey_of, askKey_of]; exact h
theorem mem_allAsks {q : Ask} (h : AskB q) : q ∈ allAsks := by
  unfold allAsks
  have := h.s; have := h.l; have := h.u
  refine List.mem_map.mpr ⟨askKey q, List.mem_range.mpr (by unfold askKey; omega), ?_⟩
  exact Prod.ext (by show (9 * q.1 + 3 * q.2.1 + q.2.2) / 9 = q.1; omega) (Prod.ext (by show (9 * q.1 + 3 * q.2.1 + q.2.2) / 3 % 3 = q.2.1; omega) (by show (9 * q.1 + 3 * q.2.1 + q.2.2) % 3 = q.2.2; omega))
def sortA (qs : List Ask) : List Ask := allAsks.filter fun q => qs.contains q
theorem sortA_congr {qs qs' : List Ask} (h : ∀ q, q ∈ qs ↔ q ∈ qs') : sortA qs = sortA qs' := by
  unfold sortA
  refine List.filter_congr fun q _ => ?_
  rw [Bool.eq_iff_iff]
  simp [h q]
section
variable {prog : Program} {w : World} {A : Around} {E : Value → Shared → Prop} {s₀ s : Shared} {R Z B : View} {V : Dyn} {L l a S : Addr} {m : Str → Option Value} {i : Nat × Nat}
theorem sortedHeap_old {h : Heap} {a b : Addr} {vs : List Value} {out : Array Value} {o : Obj} (hb : h.get? b = some o) (hne : b ≠ a) : (sortedHeap h a vs out).get? b = some o := by
  unfold sortedHeap
  have hlt := Heap.lt_size hb
  rw [Heap.get?_update_ne _ _ _ _ hne, Heap.get?_push_ne _ _ _ (by rw [size_push', Heap.size_update]; exact Nat.ne_of_lt (Nat.lt_succ_of_lt hlt)), Heap.get?_push_ne _ _ _ (by rw [Heap.size_update]; exact Nat.ne_of_lt hlt), Heap.get?_update_ne _ _ _ _ hne]
  exact hb
theorem sortedHeap_at {h : Heap} {a : Addr} {vs : List Value} {out xs : Array Value} {n : Nat} (ha : h.get? a = some (seqObj "list" xs n)) : ∃ e, (sortedHeap h a vs out).get? a = some (seqObj "list" out e) := by
  unfold sortedHeap
  have hlt := Heap.lt_size ha
  obtain ⟨e1, h1⟩ : ∃ e1, (h.update a (Obj.mapSeq fun _ => (#[] : Array Value))).get? a = some (seqObj "list" #[] e1) := ⟨_, get?_update_seq ha fun _ => #[]⟩
  have h2 : (((h.update a (Obj.mapSeq fun _ => (#[] : Array Value))).push (seqObj "tuple" vs.toArray 0)).push (seqObj "list" #[] 0)).get? a = some (seqObj "list" #[] e1) := Heap.get?_push_of_some _ (Heap.get?_push_of_some _ h1)
  exact ⟨_, get?_update_seq h2 fun _ => out⟩
def bumped (s₀ : Shared) (d : Drawn) : Shared := { s₀ with drawn := d }
theorem St.redraw {h' : Heap} {d : Drawn} (F : St s₀ R Z B V L m s) (k : ∀ b o, s.heap.get? b = some o → h'.get? b = some o) : St (bumped s₀ d) R Z B V L m { s with heap := h', drawn := d } := by
  have F₁ : St s₀ R Z B V L m { s with heap := h', toks := s.toks } := F.keep k
  exact ⟨⟨F₁.r, F₁.b, F₁.v, F₁.inj, ⟨F.same.gens, rfl, F.same.os⟩, F₁.z⟩, F₁.ns, F₁.lR, F₁.lB, F₁.lV⟩
/-- sorted of a set of asks -/
theorem sorted_set {qs : List Ask} {vs : List (Addr × Ask)} {Q : Value → Shared → Prop} (F : St s₀ R Z B V L m s) (hA : A.handled = none) (hS : SetA prog w s.heap S (ledOf w) qs vs) (hn : qs.Nodup) (hb : ∀ q ∈ qs, AskB q) (hv : ∀ p ∈ vs, TupAsk s.heap p.1 p.2)
    (h : ∀ d b (T : List (Addr × Ask)) k s', B b = none → T.map (·.2) = sortA qs → (∀ p ∈ T, p ∈ vs) → St (bumped s₀ d) R Z B (V.put i (b, listO (T.map aval) k)) L m s' → Q (.ref b) s') :
    wpAny (model prog w) A (call (.builtin "sorted") [.ref S]) Q E s := by
  refine Calls.call_function_entry kind_sorted plain_sorted entry_sorted (args_sorted1 _) ?_
  unfold Builtin.«sorted»
  refine wpAny_bind (m := checkCount "sorted" 1 1 _) (wpAny_pure ?_)
  refine wpAny_bind (collect_set (show A.in1.handled = none from hA) hS fun T Aq h₁ d hp hAq hvs hk hsz => ?_)
  have hl18 := qs_len hn hb
  have hTl : T.length = qs.length := by rw [hp.length_eq, ← hAq, List.length_map]
  have F₁ : St (bumped s₀ d) R Z B V L m { s with heap := h₁, drawn := d } := F.redraw hk
  show wpAny _ _ (newList (T.map aval) >>= _) _ _ _
  refine wpAny_bind (wpAny_newList ?_ (by rw [List.length_map, sizeLine_eq]; omega))
  have hoL : (h₁.push (seqObj "list" (T.map aval).toArray 0)).get? h₁.objs.size = some (seqObj "list" (T.map aval).toArray 0) := Heap.get?_push_size _ rfl
  have keep : ∀ b o, h₁.get? b = some o → (h₁.push (seqObj "list" (T.map aval).toArray 0)).get? b = some o := fun b o q => Heap.get?_push_of_some _ q
  have hT₁ : ∀ p ∈ T, AskTup h₁ p := fun p hp' => by
    obtain ⟨t1, t2, t3, e⟩ := hv p (hvs p (hp.mem_iff.mp hp'))
    exact ⟨t1, t2, t3, hk _ _ e⟩
  have hTq : ∀ p ∈ T, p.2 ∈ qs := fun p hp' => by rw [← hAq]; exact List.mem_map_of_mem (hp.mem_iff.mp hp')
  have K : SortAsk prog w A.in1.in1 h₁ tupKind (T.map aval) natOrd (fun i => askKey ((T.map (·.2)).getD i (0, 0, 0))) := ask_ask hT₁ fun p hp' => ⟨(hb _ (hTq p hp')).l, (hb _ (hTq p hp')).u⟩
  show wpAny _ _ _ _ _ { s with heap := h₁.push (seqObj "list" (T.map aval).toArray 0), drawn := d }
  refine wpAny_bind (wpAny_holding (wpAny_call_entry slot_list_sort ⟨_, hoL, rfl⟩ entry_list_sort (t_list_sort (h₀ := h₁) hoL (by rw [List.length_map]; omega) (fun b o e => ⟨Nat.ne_of_lt (Heap.lt_size e), keep b o e⟩) K fun p tk hp' hs => ⟨_, rfl, ?_⟩) (args_list_sort _)))
  rw [List.length_map] at hp' hs
  have hin : ∀ i ∈ p.toList, i < T.length := fun i hi => List.mem_range.mp (hp'.perm.mem_iff.mp hi)
  have eT : p.toList.map (fun i => (T.map aval).getD i Value.none) = (p.toList.map fun i => T.getD i (0, (0, 0, 0))).map aval := by
    rw [List.map_map]
    exact List.map_congr_left fun i hi => by
      have := hin i hi
      show (T.map aval).getD i Value.none = aval (T.getD i (0, (0, 0, 0)))
      rw [getD_aval this]
      simp [aval, this]
  have hTn : (T.map (·.2)).Nodup := by
    have h1 : (T.map (·.2)).Perm qs := by rw [← hAq]; exact hp.map _
    exact h1.nodup_iff.mpr hn
  have eq2 : (p.toList.map fun i => T.getD i (0, (0, 0, 0))).map (·.2) = sortA qs := by
    have hp2 : PermOf (T.map (·.2)).length p := by rw [List.length_map]; exact hp'
    have h1 := sort_out (key := askKey) (l := T.map (·.2)) (due := sortA qs) (d := (0, 0, 0)) hp2 (by rw [List.length_map]; exact hs) hTn (fun a ha b hb' e => ?_) (allAsks_inc.filter _) (fun x => ?_)
    · rw [← h1, List.map_map]
      exact List.map_congr_left fun i hi => by
        have := hin i hi
        simp [this]
    · obtain ⟨pa, hpa, rfl⟩ := List.mem_map.mp ha
      obtain ⟨pb, hpb, rfl⟩ := List.mem_map.mp hb'
      have b1 := hb _ (hTq pa hpa)
      have b2 := hb _ (hTq pb hpb)
      have := b1.l; have := b1.u; have := b2.l; have := b2.u
      unfold askKey at e
      exact Prod.ext (by omega) (Prod.ext (by omega) (by omega))
    · unfold sortA
      rw [List.mem_filter]
      constructor
      · intro hx
        obtain ⟨px, hpx, rfl⟩ := List.mem_map.mp hx
        exact ⟨mem_allAsks (hb _ (hTq px hpx)), by simpa using hTq px hpx⟩
      · rintro ⟨_, hx⟩
        have hx : x ∈ qs := by simpa using hx
        have h1 : (T.map (·.2)).Perm qs := by rw [← hAq]; exact hp.map _
        exact h1.mem_iff.mpr hx
  rw [eT]
  obtain ⟨ce, hat⟩ := sortedHeap_at (vs := T.map aval) (out := ((p.toList.map fun i => T.getD i (0, (0, 0, 0))).map aval).toArray) hoL
  have n1 : h₁.get? h₁.objs.size = none := get_fresh h₁
  have F₂ : St (bumped s₀ d) R Z B V L m { s with heap := sortedHeap (h₁.push (seqObj "list" (T.map aval).toArray 0)) h₁.objs.size (T.map aval) ((p.toList.map fun i => T.getD i (0, (0, 0, 0))).map aval).toArray, drawn := d, toks := tk } := F₁.keep (tk := tk) fun b o e => sortedHeap_old (keep b o e) (Nat.ne_of_lt (Heap.lt_size e))
  obtain ⟨fR, fB, fV⟩ := F₁.fresh n1
  refine wpAny_pure ⟨_, rfl, h d _ (p.toList.map fun i => T.getD i (0, (0, 0, 0))) ce _ fB eq2 (fun x hx => ?_) (F₂.addV hat fR fB fV (fun q => F₁.ne_fresh n1 q.symm))⟩
  obtain ⟨i, hi, rfl⟩ := List.mem_map.mp hx
  have := hin i hi
  have e3 : T.getD i (0, (0, 0, 0)) = T[i] := by simp [this]
  rw [e3]
  exact hvs _ (hp.mem_iff.mp (List.getElem_mem this))
end

end
section
theorem toNat_fmod_lt {z : Int} {n : Nat} (hn : 1 ≤ n) : (z.fmod (n : Int)).toNat < n := by
  have h1 := Int.fmod_nonneg_of_pos z (show (0 : Int) < n by omega)
  have h2 := Int.fmod_lt_of_pos z (show (0 : Int) < n by omega)
  omega
theorem conOf_ok {n : Nat} (hn : 1 ≤ n) (z : Int) : (conOf n z).ok n := by
  refine ⟨toNat_fmod_lt hn, fun h => ?_, fun h => ?_⟩
  · have h : varOf z = true := h
    show (if varOf z then _ else _) < n
    rw [if_pos h]
    exact toNat_fmod_lt hn
  · have h : varOf z = false := h
    show (if varOf z then _ else _) < 3
    rw [if_neg (by rw [h]; decide)]
    exact toNat_fmod_lt (n := 3) (by omega)
section
variable {cons : List Con} {n : Nat} {fo : Bool} {S : CS} {asks : List Ask}
theorem mem_pairs {x y : Nat} : (x, y) ∈ pairsL cons ↔ edge (· ∈ cons) x y := by
  unfold pairsL edge
  simp only [List.mem_map, List.mem_filter]
  constructor
  · rintro ⟨⟨a, sd, v, b⟩, ⟨hc, hv⟩, e⟩
    dsimp only at hv
    subst hv
    unfold prOf at e
    cases sd with
    | true => simp only [if_true, Prod.mk.injEq] at e; obtain ⟨rfl, rfl⟩ := e; exact .inr hc
    | false => simp only [Bool.false_eq_true, if_false, Prod.mk.injEq] at e; obtain ⟨rfl, rfl⟩ := e; exact .inl hc
  · rintro (h | h)
    · exact ⟨_, ⟨h, rfl⟩, rfl⟩
    · exact ⟨_, ⟨h, rfl⟩, rfl⟩
theorem mem_lows {x j : Nat} : (x, j) ∈ lowsL cons ↔ (x, true, false, j) ∈ cons := by
  unfold lowsL
  simp only [List.mem_map, List.mem_filter]
  constructor
  · rintro ⟨⟨a, sd, v, b⟩, ⟨hc, hv⟩, e⟩
    cases sd <;> cases v <;> simp at hv
    simp only [Prod.mk.injEq] at e
    obtain ⟨rfl, rfl⟩ := e
    exact hc
  · intro h
    exact ⟨_, ⟨h, rfl⟩, rfl⟩
theorem mem_highs {x j : Nat} : (x, j) ∈ highsL cons ↔ (x, false, false, j) ∈ cons := by
  unfold highsL
  simp only [List.mem_map, List.mem_filter]
  constructor
  · rintro ⟨⟨a, sd, v, b⟩, ⟨hc, hv⟩, e⟩
    cases sd <;> cases v <;> simp at hv
    simp only [Prod.mk.injEq] at e
    obtain ⟨rfl, rfl⟩ := e
    exact hc
  · intro h
    exact ⟨_, ⟨h, rfl⟩, rfl⟩
theorem wayL_iff {a b : Nat} : WayL (pairsL cons) a b ↔ WayD (· ∈ cons) a b := Way.congr fun _ _ => mem_pairs
theorem mem_highs' {x j : Nat} : (x, j) ∈ highsL cons ++ (if fo = true ∧ asks ≠ [] then [(0, 2)] else []) ↔ allCons fo cons asks (x, false, false, j) := by
  rw [List.mem_append, mem_highs]
  unfold allCons fup
  refine or_congr Iff.rfl ?_
  by_cases h : fo = true ∧ asks ≠ []
  · rw [if_pos h]
    simp [h.1, h.2]
  · rw [if_neg h]
    simp only [List.not_mem_nil, false_iff]
    rintro ⟨h1, h2, _⟩
    exact h ⟨h1, h2⟩
/-- what the law's own reading gives, against what the closure gives -/
theorem fin_asks (hE : Ends fo n cons S) {Ld : Nat → List Nat} (hn : 1 ≤ n) (hok : ∀ x ∈ cons, x.ok n) (hLd : ∀ i, i < n → ∀ b, b ∈ Ld i ↔ WayL (pairsL cons) i b) {lows highs : List Pr} (hl : lows = lowsL cons) (hh : highs = highsL cons ++ (if fo = true ∧ S.asks ≠ [] then [(0, 2)] else [])) (q : Ask) :
    q ∈ S.asks ↔ q.1 < 2 ∧ ∃ p ∈ lows, ∃ r ∈ highs, r.1 ∈ Ld p.1 ∧ q.2.1 = p.2 ∧ q.2.2 = r.2 := by
  obtain ⟨sd, lt, ut⟩ := q
  rw [hE.asks]
  refine and_congr Iff.rfl ?_
  subst hl hh
  constructor
  · rintro ⟨one, other, h1, h2, h3⟩
    have hb : one < n := (hok _ h1).1
    exact ⟨(one, lt), mem_lows.mpr h1, (other, ut), mem_highs'.mpr h2, (hLd one hb other).mpr (wayL_iff.mpr h3), rfl, rfl⟩
  · rintro ⟨⟨one, lt'⟩, h1, ⟨other, ut'⟩, h2, h3, e1, e2⟩
    dsimp only at e1 e2 h3
    subst e1 e2
    have h1' := mem_lows.mp h1
    have hb : one < n := (hok _ h1').1
    exact ⟨one, other, h1', mem_highs'.mp h2, wayL_iff.mp ((hLd one hb other).mp h3)⟩
theorem fin_lo (hE : Ends fo n cons S) {Ld : Nat → List Nat} (hok : ∀ x ∈ cons, x.ok n) (hLd : ∀ i, i < n → ∀ b, b ∈ Ld i ↔ WayL (pairsL cons) i b) {k : Nat} (hk : k < n) (j : Nat) :
    j ∈ S.lo k ↔ ∃ p ∈ lowsL cons, p.2 = j ∧ k ∈ Ld p.1 := by
  rw [hE.lo k hk]
  constructor
  · rintro ⟨one, h1, h3⟩
    exact ⟨(one, j), mem_lows.mpr h1, rfl, (hLd one (hok _ h1).1 k).mpr (wayL_iff.mpr h3)⟩
  · rintro ⟨⟨one, j'⟩, h1, rfl, h3⟩
    have h1' := mem_lows.mp h1
    exact ⟨one, h1', wayL_iff.mp ((hLd one (hok _ h1').1 k).mp h3)⟩
theorem fin_up (hE : Ends fo n cons S) {Ld : Nat → List Nat} (hLd : ∀ i, i < n → ∀ b, b ∈ Ld i ↔ WayL (pairsL cons) i b) {k : Nat} (hk : k < n) (j : Nat) :
    j ∈ S.up k ↔ ∃ p ∈ highsL cons ++ (if fo = true ∧ S.asks ≠ [] then [(0, 2)] else []), p.2 = j ∧ p.1 ∈ Ld k := by
  rw [hE.up k hk]
  constructor
  · rintro ⟨one, h1, h3⟩
    exact ⟨(one, j), mem_highs'.mpr h1, rfl, (hLd k hk one).mpr (wayL_iff.mpr h3)⟩
  · rintro ⟨⟨one, j'⟩, h1, rfl, h3⟩
    exact ⟨one, mem_highs'.mp h1, wayL_iff.mp ((hLd k hk one).mp h3)⟩
theorem fin_p (hE : Ends fo n cons S) {Ld : Nat → List Nat} (hLd : ∀ i, i < n → ∀ b, b ∈ Ld i ↔ WayL (pairsL cons) i b) (a b : Nat) : (a, b) ∈ S.P ↔ a < n ∧ b < n ∧ b ∈ Ld a := by
  rw [hE.p]
  constructor
  · rintro ⟨h1, h2, h3⟩; exact ⟨h1, h2, (hLd a h1 b).mpr (wayL_iff.mpr h3)⟩
  · rintro ⟨h1, h2, h3⟩; exact ⟨h1, h2, wayL_iff.mp ((hLd a h1 b).mp h3)⟩
theorem fin_len (hE : Ends fo n cons S) (h5 : n ≤ 5) : S.P.length ≤ 25 := by
  have h2 := nodup_len (l := S.P.map fun q : Pr => 5 * q.1 + q.2) (l' := List.range 25) ?_ fun x hx => ?_
  · rw [List.length_map, List.length_range] at h2; exact h2
  · rw [List.nodup_iff_pairwise_ne, List.pairwise_map]
    refine List.Pairwise.imp_of_mem (R := fun a b => a ≠ b) (fun {a b} ha hb hne e => hne ?_) (List.nodup_iff_pairwise_ne.mp hE.pn)
    have h1 := (hE.p a.1 a.2).mp ha
    have h2 := (hE.p b.1 b.2).mp hb
    exact Prod.ext (by omega) (by omega)
  · obtain ⟨q, hq, rfl⟩ := List.mem_map.mp hx
    have h1 := (hE.p q.1 q.2).mp hq
    exact List.mem_range.mpr (by omega)
theorem lows_ok (hok : ∀ x ∈ cons, x.ok n) : ∀ p ∈ lowsL cons, p.1 < n ∧ p.2 < 3 := fun ⟨x, j⟩ hp => by
  have h := hok _ (mem_lows.mp hp)
  exact ⟨h.1, h.2.2 rfl⟩
theorem highs_ok (hn : 1 ≤ n) (hok : ∀ x ∈ cons, x.ok n) : ∀ p ∈ highsL cons ++ (if fo = true ∧ asks ≠ [] then [(0, 2)] else []), p.1 < n ∧ p.2 < 3 := fun ⟨x, j⟩ hp => by
  rcases mem_highs'.mp hp with h | ⟨_, _, h⟩
  · exact ⟨(hok _ h).1, (hok _ h).2.2 rfl⟩
  · unfold fup at h
    simp only [Prod.mk.injEq] at h
    exact ⟨by show x < n; omega, by show j < 3; omega⟩
theorem pairs_ok (hok : ∀ x ∈ cons, x.ok n) : ∀ p ∈ pairsL cons, p.1 < n ∧ p.2 < n := fun ⟨x, y⟩ hp => by
  rcases mem_pairs.mp hp with h | h
  · exact ⟨(hok _ h).1, (hok _ h).2.1 rfl⟩
  · exact ⟨(hok _ h).2.1 rfl, (hok _ h).1⟩
theorem asks_ok (hE : Ends fo n cons S) (hn : 1 ≤ n) (hok : ∀ x ∈ cons, x.ok n) : ∀ q ∈ S.asks, AskB q := fun ⟨sd, lt, ut⟩ hq => by
  obtain ⟨h1, one, other, h2, h3, _⟩ := (hE.asks sd lt ut).mp hq
  have h4 := (highs_ok (fo := fo) (asks := S.asks) hn hok (other, ut) (mem_highs'.mpr h3)).2
  exact ⟨h1, (hok _ h2).2.2 rfl, h4⟩
end

end
section
/-- what the turns put out: new objects told by data -/
def OutK {α : Type} (K : View → Addr × α → Prop) (f : Nat → List α) (B : View) (j : Nat) (zs : List Value) : Prop := ∃ T : List (Addr × α), zs = T.map aval ∧ T.map (·.2) = f j ∧ ∀ p ∈ T, K B p
theorem OutK.mono {α : Type} {K : View → Addr × α → Prop} {f : Nat → List α} (hK : ∀ B B' p, View.le B B' → K B p → K B' p) (B' B'' : View) (j : Nat) (zs : List Value) (hl : B'.le B'') (h : OutK K f B' j zs) : OutK K f B'' j zs := let ⟨G, a, b, c⟩ := h; ⟨G, a, b, fun p hp => hK _ _ p hl (c p hp)⟩
theorem cat_k {α : Type} {K : View → Addr × α → Prop} {B : View} {f : Nat → List α} {n : Nat} {zs : List Value} (c : Cat (OutK K f B) n zs) : ∃ T : List (Addr × α), zs = T.map aval ∧ T.map (·.2) = (List.range n).flatMap f ∧ ∀ p ∈ T, K B p := by
  induction c with
  | zero => exact ⟨[], rfl, rfl, fun p h => absurd h (by simp)⟩
  | @succ n ys zs _ o ih =>
    obtain ⟨G, h1, h2, h3⟩ := ih
    obtain ⟨G', g1, g2, g3⟩ := o
    refine ⟨G ++ G', by rw [h1, g1, List.map_append], by rw [List.map_append, h2, g2, List.range_succ, List.flatMap_append]; simp, fun p hp => ?_⟩
    rcases List.mem_append.mp hp with hp | hp
    · exact h3 p hp
    · exact g3 p hp
def StrT (B : View) (p : Addr × Pr) : Prop := ∃ t t', B p.1 = some (tupO [.str (clsName p.2.1) t, .str (clsName p.2.2) t'])
def AskT (B : View) (p : Addr × Ask) : Prop := ∃ t1 t2 t3, B p.1 = some (tupO [.int (p.2.1 : Int) t1, .str (clsName p.2.2.1) t2, .str (clsName p.2.2.2) t3])
theorem StrT.up (B B' : View) (p : Addr × Pr) (hl : View.le B B') (h : StrT B p) : StrT B' p := let ⟨t, t', e⟩ := h; ⟨t, t', hl _ _ e⟩
theorem AskT.up (B B' : View) (p : Addr × Ask) (hl : View.le B B') (h : AskT B p) : AskT B' p := let ⟨t, t', t'', e⟩ := h; ⟨t, t', t'', hl _ _ e⟩
theorem fm_len {α β : Type} {f : α → List β} (h : ∀ x, (f x).length ≤ 1) : ∀ l : List α, (l.flatMap f).length ≤ l.length
  | [] => Nat.zero_le _
  | x :: l => by rw [List.flatMap_cons, List.length_append, List.length_cons]; have := h x; have := fm_len h l; omega
def meetIn (TL TH : List (Addr × Pr)) (Ld : Nat → List Nat) (j j' : Nat) : List Pr := if (Ld (TL.getD j (0, (0, 0))).2.1).contains (TH.getD j' (0, (0, 0))).2.1 = true then [((TL.getD j (0, (0, 0))).2.2, (TH.getD j' (0, (0, 0))).2.2)] else []
def meetOut (TL TH : List (Addr × Pr)) (Ld : Nat → List Nat) (j : Nat) : List Pr := (List.range TH.length).flatMap (meetIn TL TH Ld j)
def askIn (TM : List (Addr × Pr)) (k j' : Nat) : List Ask := [(k, (TM.getD j' (0, (0, 0))).2.1, (TM.getD j' (0, (0, 0))).2.2)]
def askOut (TM : List (Addr × Pr)) (k : Nat) : List Ask := (List.range TM.length).flatMap (askIn TM k)
theorem askOut_len (TM : List (Addr × Pr)) (k : Nat) : (askOut TM k).length ≤ TM.length := by
  have := fm_len (f := askIn TM k) (fun x => by simp [askIn]) (List.range TM.length)
  rw [List.length_range] at this
  exact this
section
variable {prog : Program} {w : World} {A : Around} {E : Value → Shared → Prop} {s₀ s : Shared} {R Z B : View} {V : Dyn} {L la ll lh al : Addr} {m mg mb : Str → Option Value} {n kl kll klh : Nat} {D : Dom} {t : Tok} {TL TH : List (Addr × Pr)} {FL : List Addr} {Ld : Nat → List Nat} {asks : List (Addr × Ask)}
theorem leafK {α : Type} {K : View → Addr × α → Prop} {B'' : View} {C : Addr} {m'' : Str → Option Value} {f : Nat → List α} {j : Nat} {zs : List Value} {Mk : (Str → Option Value) → Prop} (F : St s₀ R Z B'' V C m'' s) (hl : B.le B'') (hO : OutK K f B'' j zs) (hm : Mk m'') :
    Leaf (∃ B'' m'', B.le B'' ∧ OutK K f B'' j zs ∧ Mk m'' ∧ St s₀ R Z B'' V C m'' s) := Leaf.mk ⟨B'', m'', hl, hO, hm, F⟩
set_option maxHeartbeats 4000000 in
theorem ph_F {Q : Flow → Shared → Prop} (F : St s₀ R Z B V L m s) (Cc : Cx w mg mb Z) (hA : Lv 30 A) (hD : DomOK D B)
    (hla : B la = some (listO (FL.map .ref) kl)) (hL : LdAt B FL Ld D.n)
    (hll : B ll = some (listO (TL.map aval) kll)) (hTL : TupL B TL) (hTL9 : TL.length ≤ 9) (hTLn : ∀ p ∈ TL, p.2.1 < D.n ∧ p.2.2 < 3)
    (hlh : B lh = some (listO (TH.map aval) klh)) (hTH : TupL B TH) (hTH9 : TH.length ≤ 9) (hTHn : ∀ p ∈ TH, p.2.1 < D.n ∧ p.2.2 < 3)
    (aS : AskSt B V al asks) (hab : ∀ p ∈ asks, AskB p.2) (hask : ∀ q, q ∈ asks.map (·.2) ↔ q.1 < 2 ∧ ∃ p ∈ TL, ∃ r ∈ TH, r.2.1 ∈ Ld p.2.1 ∧ q.2.1 = p.2.2 ∧ q.2.2 = r.2.2)
    (h : ∀ d B' V' s', B.le B' → Only [11, 14, 15] V V' → (∀ j, j ≠ 4 → V' (11, j) = V (11, j)) → St (bumped s₀ d) R Z B' V' L m s' → wpAny (model prog w) A (execs ((lawB w.params).drop 16) (lawEnv w.params L)) Q E s')
    (k3 : CloAt B (L + 1 + 1 + 1 + 1 + 1 + 1 + 1 + 1 + 1 + 1) (.ref al)) (c4 : CellV w.params L V 4 (L + 1 + 1 + 1 + 1 + 1 + 1 + 1 + 1 + 1) (Str.ofString "meet") none)
    (c7 : CellV w.params L V 7 (L + 1 + 1 + 1 + 1 + 1 + 1) (Str.ofString "leads") (some (.ref la)))
    (c9 : CellV w.params L V 9 (L + 1 + 1 + 1 + 1) (Str.ofString "lows") (some (.ref ll))) (c8 : CellV w.params L V 8 (L + 1 + 1 + 1 + 1 + 1) (Str.ofString "highs") (some (.ref lh))) :
    wpAny (model prog w) A (execs ((lawB w.params).drop 14) (lawEnv w.params L)) Q E s := by
  have lk9 := c9.lk
  have lk8 := c8.lk
  have lk7 := c7.lk
  have lk4 := c4.lk
  have lk3 : (lawEnv w.params L).cells.lookup (Str.ofString "asked") = some (L + 1 + 1 + 1 + 1 + 1 + 1 + 1 + 1 + 1 + 1) := rfl
  obtain ⟨o9, v9, d9⟩ := c9.ex
  obtain ⟨o8, v8, d8⟩ := c8.ex
  obtain ⟨o7, v7, d7⟩ := c7.ex
  obtain ⟨o4, v4, d4⟩ := c4.ex
  obtain ⟨o3, e3, d3⟩ := k3.ex
  clear c9 c8 c7 c4 k3
  dsimp only [lawB, lawInfo, lawEnv, List.drop] at lk9 lk8 lk7 lk4 lk3 ⊢
  repeat walk1
  have hn5 := hD.n5
  have CcB := Cc.le F.z
  refine lc_none (i := (14, 4)) (Out := OutK StrT (meetOut TL TH Ld)) F (Src.list hA.h (At.ofB hll))
    (loop2 (Out' := fun B' k => OutK StrT (meetIn TL TH Ld k) B') (fun _ => True) (by rw [List.length_map]; omega) CcB (fun B' D ys n hl => At.ofB (hl _ _ hll)) (OutK.mono StrT.up) trivial ?_ ?_) ?_
  · rintro B' j zs ⟨T₁, rfl, h1, _⟩
    have h2 := congrArg List.length h1
    rw [List.length_map] at h2
    have h3 : (meetOut TL TH Ld j).length ≤ TH.length := by
      have := fm_len (f := meetIn TL TH Ld j) (fun x => by unfold meetIn; split <;> simp) (List.range TH.length)
      rw [List.length_range] at this
      exact this
    rw [List.length_map]; omega
  · intro C Dd q v ys nn R₁ B₁ m₁ s₁ hq hP hl _ _ Cc₁ F₁
    rw [List.getElem?_map] at hP
    obtain ⟨p, hp, rfl⟩ := Option.map_eq_some_iff.mp hP
    have hpm := List.mem_of_getElem? hp
    obtain ⟨tp1, tp2, hpt⟩ := hTL p hpm
    have hpn := hTLn p hpm
    replace hpt := hl _ _ hpt
    have hlh₁ := hl _ _ hlh
    clear F CcB
    unfold aval
    refine unpack2 F₁ hA.h hpt fun s₂ F₂ => ?_
    clear F₁
    repeat walk1
    rename_i s₃ F₃
    clear F₂
    refine Leaf.mk ⟨B₁, _, fun m => m (Str.ofString "one") = some (.int (p.2.1 : Int) tp1) ∧ m (Str.ofString "low") = some (.int (p.2.2 : Int) tp2), (TH.map aval).length, _, _, View.le.refl _, F₃, ⟨by dl_step, by dl_step⟩, Src.list hA.h (At.ofB hlh₁), by rw [List.length_map]; omega, fun _ _ _ hl' => At.ofB (hl' _ _ hlh₁), fun B' B'' j' zs hl => OutK.mono StrT.up B' B'' j' zs hl, fun B' zs hl hc => ?_, fun _ _ => trivial, ?_⟩
    · obtain ⟨T₁, h1, h2, h3⟩ := cat_k hc
      rw [List.length_map] at h2
      exact ⟨T₁, h1, h2, h3⟩
    intro j' v' ys nn R₂ B₉ m₂ s₉ hj' hP' hl₉ hmk F₉
    obtain ⟨hone, hlow⟩ := hmk
    rw [List.getElem?_map] at hP'
    obtain ⟨r, hr, rfl⟩ := Option.map_eq_some_iff.mp hP'
    have hrm := List.mem_of_getElem? hr
    obtain ⟨tr1, tr2, hrt⟩ := hTH r hrm
    have hrn := hTHn r hrm
    replace hrt := hl₉ _ _ (hl _ _ hrt)
    have hla₉ := hl₉ _ _ (hl _ _ hla)
    obtain ⟨x, ws1, k1, hx1, hx2, hx3, hx4⟩ := (hL.le (hl.trans hl₉)).2 p.2.1 hpn.1
    have hx5 : (FL.map Value.ref)[p.2.1]? = some (.ref x) := by rw [List.getElem?_map, hx1]; rfl
    have ep : TL.getD q (0, (0, 0)) = p := by rw [List.getD_eq_getElem?_getD, hp]; rfl
    have er : TH.getD j' (0, (0, 0)) = r := by rw [List.getD_eq_getElem?_getD, hr]; rfl
    have emi : meetIn TL TH Ld q j' = if (Ld p.2.1).contains r.2.1 = true then [(p.2.2, r.2.2)] else [] := by unfold meetIn; rw [ep, er]
    clear F₃
    refine unpack2 F₉ hA.h hrt fun s₁₀ F₁₀ => ?_
    clear F₉
    repeat walk1
    refine l_sub (by kby_int) (At.ofB hla₉) hx5 (by omega) ?_
    refine in_list_ints (vs := ws1) (ns := natsI (Ld p.2.1)) (s_listB (by kby_int) hx2) hx3 ?_
    rw [natsI_any]
    cases hc : (Ld p.2.1).contains r.2.1
    · repeat walk1
      exact leafK (by kby_int) (View.le.refl _) ⟨[], rfl, by rw [emi, if_neg (by rw [hc]; decide)]; rfl, by simp⟩ ⟨by dl_step, by dl_step⟩
    · repeat walk1
      refine l_abc (by kby_int) hpn.2 fun s₁₁ t₁₁ F₁₁ => ?_
      repeat walk1
      refine l_abc (by kby_int) hrn.2 fun s₁₂ t₁₂ F₁₂ => ?_
      clear F₁₁
      repeat walk1
      rw [clsName_abc hpn.2, clsName_abc hrn.2]
      refine n_tup (by kby_int) fun tt s₁₃ hbt F₁₃ => ?_
      exact leafK F₁₃ (vput_le hbt) ⟨[(tt, (p.2.2, r.2.2))], rfl, by rw [emi, if_pos hc]; rfl, fun p' hp' => by
        simp at hp'; subst hp'
        exact ⟨_, _, vput_self _ _ _⟩⟩ ⟨by dl_step, by dl_step⟩
  intro ml B₂ zs km s₂ hl₂ hcat F₂
  obtain ⟨TM, rfl, eTM, hTM⟩ := cat_k hcat
  rw [List.length_map] at eTM
  clear hcat F CcB
  have hMm : ∀ a b, (a, b) ∈ TM.map (·.2) ↔ ∃ p ∈ TL, ∃ r ∈ TH, r.2.1 ∈ Ld p.2.1 ∧ a = p.2.2 ∧ b = r.2.2 := fun a b => by
    rw [eTM, List.mem_flatMap]
    constructor
    · rintro ⟨j, hj, hx⟩
      obtain ⟨j', hj', hx⟩ := List.mem_flatMap.mp hx
      have hj := List.mem_range.mp hj
      have hj' := List.mem_range.mp hj'
      have ep : TL.getD j (0, (0, 0)) = TL[j] := by simp [hj]
      have er : TH.getD j' (0, (0, 0)) = TH[j'] := by simp [hj']
      unfold meetIn at hx
      rw [ep, er] at hx
      split at hx
      · rename_i hc
        simp only [List.mem_singleton, Prod.mk.injEq] at hx
        exact ⟨_, List.getElem_mem hj, _, List.getElem_mem hj', by simpa using hc, hx.1, hx.2⟩
      · simp at hx
    · rintro ⟨p, hp, r, hr, hc, rfl, rfl⟩
      obtain ⟨j, hj, rfl⟩ := List.mem_iff_getElem.mp hp
      obtain ⟨j', hj', rfl⟩ := List.mem_iff_getElem.mp hr
      refine ⟨j, List.mem_range.mpr hj, List.mem_flatMap.mpr ⟨j', List.mem_range.mpr hj', ?_⟩⟩
      have ep : TL.getD j (0, (0, 0)) = TL[j] := by simp [hj]
      have er : TH.getD j' (0, (0, 0)) = TH[j'] := by simp [hj']
      unfold meetIn
      rw [ep, er, if_pos (by simpa using hc)]
      simp
  have hM3 : ∀ p ∈ TM, p.2.1 < 3 ∧ p.2.2 < 3 := fun p hp => by
    obtain ⟨p', hp', r, hr, _, e1, e2⟩ := (hMm p.2.1 p.2.2).mp (List.mem_map_of_mem hp)
    rw [e1, e2]
    exact ⟨(hTLn p' hp').2, (hTHn r hr).2⟩
  have hMl : TM.length ≤ 81 := by
    have h1 := congrArg List.length eTM
    rw [List.length_map] at h1
    rw [h1]
    have key : ∀ l : List Nat, (l.flatMap (meetOut TL TH Ld)).length ≤ l.length * 9 := by
      intro l
      induction l with
      | nil => simp
      | cons x l ih =>
        rw [List.flatMap_cons, List.length_append, List.length_cons]
        have h3 : (meetOut TL TH Ld x).length ≤ TH.length := by
          have := fm_len (f := meetIn TL TH Ld x) (fun x => by unfold meetIn; split <;> simp) (List.range TH.length)
          rw [List.length_range] at this
          exact this
        omega
    have := key (List.range TL.length)
    rw [List.length_range] at this
    omega
  replace e3 := hl₂ _ _ e3
  iterate 14 walk1
  rename_i o4' s₃ d4' F₃
  clear F₂
  obtain ⟨ka, va9⟩ := aS.v
  have hl₀₂ := hl₂
  have asT : ∀ p ∈ asks, TupAsk s₃.heap p.1 p.2 := fun p hp => let ⟨t1, t2, t3, e⟩ := aS.is p hp; ⟨t1, t2, t3, (F₃.b _ _ (hl₂ _ _ e)).1⟩
  refine call_set_asks (vals := asks) hA.h (by have := hA.u; show A.units + 10 < 9900; omega) ⟨_, (F₃.v (9, 0) _ _ (by dl_mem)).1, rfl, ka, rfl⟩ asT hab fun h₄ tk₄ hS₄ hk₄ => ?_
  have F₄ : St s₀ R Z B₂ ((V.put (14, 4) (ml, listO (List.map aval TM) km)).put (11, 4) (L + 1 + 1 + 1 + 1 + 1 + 1 + 1 + 1 + 1, o4')) L m { s₃ with heap := h₄, toks := tk₄ } := F₃.keep fun b o e => hk₄ b o (Heap.lt_size e) e
  have asT₄ : ∀ p ∈ asks, TupAsk h₄ p.1 p.2 := fun p hp => let ⟨t1, t2, t3, e⟩ := asT p hp; ⟨t1, t2, t3, hk₄ _ _ (Heap.lt_size e) e⟩
  clear F₃
  iterate 1 walk1
  have hd1 := dedupA_ok (asks.map (·.2))
  refine sorted_set (i := (15, 2)) F₄ hA.h hS₄ hd1.1 (fun q hq => by
    obtain ⟨p, hp, rfl⟩ := List.mem_map.mp ((hd1.2 q).mp hq)
    exact hab p hp) asT₄ fun d b T₅ k₅ s₅ hbB eT₅ hT₅v F₅ => ?_
  clear F₄ hS₄
  iterate 16 walk1
  rename_i tt s₆ hbt F₆
  clear F₅
  have hl₆ := vput_le (o := tupO [Value.int 0 196, Value.int 1 198]) hbt
  have htt : (B₂.put tt (tupO [Value.int 0 196, Value.int 1 198])) tt = some (tupO [Value.int 0 196, Value.int 1 198]) := vput_self _ _ _
  generalize B₂.put tt (tupO [Value.int 0 196, Value.int 1 198]) = B₆ at F₆ hl₆ htt
  have hTM₆ : ∀ p ∈ TM, StrT B₆ p := fun p hp => StrT.up _ _ p hl₆ (hTM p hp)
  have CcB := Cc.le F₆.z
  have v4₆ : (((V.put (14, 4) (ml, listO (List.map aval TM) km)).put (11, 4) (L + 1 + 1 + 1 + 1 + 1 + 1 + 1 + 1 + 1, o4')).put (15, 2) (b, listO (List.map aval T₅) k₅)) (14, 4) = some (ml, listO (List.map aval TM) km) := by dl_mem
  refine lc_none (i := (14, 1)) (Out := OutK AskT (askOut TM)) F₆ (Src.tuple hA.h htt)
    (loop2 (Out' := fun B' k => OutK AskT (askIn TM k) B') (fun _ => True) (by simp) CcB (fun B' D ys n hl => hl _ _ htt) (OutK.mono AskT.up) trivial ?_ ?_) ?_
  · rintro B' j zs ⟨T₁, rfl, h1, _⟩
    have h2 := congrArg List.length h1
    rw [List.length_map] at h2
    have := askOut_len TM j
    rw [List.length_map]; omega
  · intro C Dd q v ys nn R₁ B₁ m₁ s₇ hq hP hl _ _ Cc₁ F₇
    obtain ⟨tq, rfl⟩ : ∃ tq, v = .int (q : Int) tq := by
      match q, hq, hP with
      | 0, _, hP => simp at hP; exact ⟨196, hP.symm⟩
      | 1, _, hP => simp at hP; exact ⟨198, hP.symm⟩
    clear F₆ CcB
    repeat walk1
    rename_i s₈ F₈
    clear F₇
    refine Leaf.mk ⟨B₁, _, fun m => m (Str.ofString "side") = some (.int (q : Int) tq), (TM.map aval).length, _, _, View.le.refl _, F₈, by dl_step, Src.list hA.h (At.ofV (i := (14, 4)) ((put_other _ _ (by decide)).trans v4₆)), by rw [List.length_map]; omega, fun _ _ _ _ => At.ofV (i := (14, 4)) ((put_other _ _ (by decide)).trans v4₆), fun B' B'' j' zs hl => OutK.mono AskT.up B' B'' j' zs hl, fun B' zs hl hc => ?_, fun _ _ => trivial, ?_⟩
    · obtain ⟨T₁, h1, h2, h3⟩ := cat_k hc
      rw [List.length_map] at h2
      exact ⟨T₁, h1, h2, h3⟩
    intro j' v' ys nn R₂ B₉ m₂ s₉ hj' hP' hl₉ hmk F₉
    rw [List.getElem?_map] at hP'
    obtain ⟨p, hp, rfl⟩ := Option.map_eq_some_iff.mp hP'
    have hpm := List.mem_of_getElem? hp
    obtain ⟨tp1, tp2, hpt⟩ := hTM₆ p hpm
    replace hpt := hl₉ _ _ (hl _ _ hpt)
    have ep : TM.getD j' (0, (0, 0)) = p := by rw [List.getD_eq_getElem?_getD, hp]; rfl
    have emi : askIn TM q j' = [(q, p.2.1, p.2.2)] := by unfold askIn; rw [ep]
    clear F₈
    unfold aval
    refine unpack2 F₉ hA.h hpt fun s₁₀ F₁₀ => ?_
    clear F₉
    repeat walk1
    rename_i tw s₁₁ hbw F₁₁
    exact leafK F₁₁ (vput_le hbw) ⟨[(tw, (q, p.2.1, p.2.2))], rfl, by rw [emi]; rfl, fun p' hp' => by
      simp at hp'; subst hp'
      exact ⟨_, _, _, vput_self _ _ _⟩⟩ (by dl_step)
  intro el B₇ zs ke s₇ hl₇ hcat F₇
  obtain ⟨TE, rfl, eTE, hTE⟩ := cat_k hcat
  clear hcat F₆ CcB
  have hEm : ∀ q, q ∈ TE.map (·.2) ↔ q.1 < 2 ∧ (q.2.1, q.2.2) ∈ TM.map (·.2) := fun q => by
    rw [eTE, List.mem_flatMap]
    constructor
    · rintro ⟨k, hk, hx⟩
      obtain ⟨j', hj', hx⟩ := List.mem_flatMap.mp hx
      have hk := List.mem_range.mp hk
      have hj' := List.mem_range.mp hj'
      unfold askIn at hx
      rw [List.mem_singleton] at hx
      have ep : TM.getD j' (0, (0, 0)) = TM[j'] := by simp [hj']
      rw [ep] at hx
      rw [hx]
      exact ⟨hk, List.mem_map_of_mem (f := (·.2)) (List.getElem_mem hj')⟩
    · rintro ⟨h1, h2⟩
      obtain ⟨p, hp, e⟩ := List.mem_map.mp h2
      obtain ⟨j', hj', rfl⟩ := List.mem_iff_getElem.mp hp
      refine ⟨q.1, List.mem_range.mpr h1, List.mem_flatMap.mpr ⟨j', List.mem_range.mpr hj', ?_⟩⟩
      have ep : TM.getD j' (0, (0, 0)) = TM[j'] := by simp [hj']
      unfold askIn
      rw [ep, List.mem_singleton]
      have e1 := congrArg (·.1) e
      have e2 := congrArg (·.2) e
      dsimp only at e1 e2
      rw [e1, e2]
  have hEb : ∀ p ∈ TE, AskB p.2 := fun p hp => by
    obtain ⟨h1, h2⟩ := (hEm p.2).mp (List.mem_map_of_mem hp)
    obtain ⟨p', hp', e⟩ := List.mem_map.mp h2
    have h3 := hM3 p' hp'
    have e1 := congrArg (·.1) e
    have e2 := congrArg (·.2) e
    dsimp only at e1 e2
    exact ⟨h1, by omega, by omega⟩
  have seq : sortA (dedupA (asks.map (·.2))) = sortA (dedupA (TE.map (·.2))) := sortA_congr fun q => by
    rw [(dedupA_ok _).2, (dedupA_ok _).2, hask, hEm, hMm]
  iterate 1 walk1
  have hTEs : ∀ p ∈ TE, TupAsk s₇.heap p.1 p.2 := fun p hp => let ⟨t1, t2, t3, e⟩ := hTE p hp; ⟨t1, t2, t3, (F₇.b _ _ e).1⟩
  refine call_set_asks (vals := TE) hA.h (by have := hA.u; show A.units + 10 < 9900; omega) ⟨_, (F₇.v (14, 1) _ _ (put_self _ _ _)).1, rfl, ke, rfl⟩ hTEs hEb fun h₈ tk₈ hS₈ hk₈ => ?_
  have F₈ : St (bumped s₀ d) R Z B₇ ((((V.put (14, 4) (ml, listO (List.map aval TM) km)).put (11, 4) (L + 1 + 1 + 1 + 1 + 1 + 1 + 1 + 1 + 1, o4')).put (15, 2) (b, listO (List.map aval T₅) k₅)).put (14, 1) (el, listO (List.map aval TE) ke)) L m { s₇ with heap := h₈, toks := tk₈ } := F₇.keep fun b o e => hk₈ b o (Heap.lt_size e) e
  have hTE₈ : ∀ p ∈ TE, TupAsk h₈ p.1 p.2 := fun p hp => let ⟨t1, t2, t3, e⟩ := hTEs p hp; ⟨t1, t2, t3, hk₈ _ _ (Heap.lt_size e) e⟩
  clear F₇
  iterate 1 walk1
  have hd2 := dedupA_ok (TE.map (·.2))
  refine sorted_set (i := (15, 3)) F₈ hA.h hS₈ hd2.1 (fun q hq => by
    obtain ⟨p, hp, rfl⟩ := List.mem_map.mp ((hd2.2 q).mp hq)
    exact hEb p hp) hTE₈ fun d' b' T₆ k₆ s₉ hbB' eT₆ hT₆v F₉ => ?_
  clear F₈ hS₈
  have r1 : ∀ p ∈ T₅, ∃ t1 t2 t3, s₉.heap.get? p.1 = some (tupO [.int (p.2.1 : Int) t1, .str (clsName p.2.2.1) t2, .str (clsName p.2.2.2) t3]) := fun p hp => let ⟨t1, t2, t3, e⟩ := aS.is p (hT₅v p hp); ⟨t1, t2, t3, (F₉.b _ _ (hl₇ _ _ (hl₆ _ _ (hl₂ _ _ e)))).1⟩
  have r2 : ∀ p ∈ T₆, ∃ t1 t2 t3, s₉.heap.get? p.1 = some (tupO [.int (p.2.1 : Int) t1, .str (clsName p.2.2.1) t2, .str (clsName p.2.2.2) t3]) := fun p hp => let ⟨t1, t2, t3, e⟩ := hTE p (hT₆v p hp); ⟨t1, t2, t3, (F₉.b _ _ e).1⟩
  refine ne_dataH (da := .list ((T₅.map (·.2)).map askD)) (db := .list ((T₆.map (·.2)).map askD)) (Reads.list (F₉.v (15, 2) _ _ (by dl_mem)).1 rfl rfl (readsAll_asks r1)) (Reads.list (F₉.v (15, 3) _ _ (put_self _ _ _)).1 rfl rfl (readsAll_asks r2)) (askL_shaped _) (askL_shaped _) (by have := hA.u; show A.units + 64 < 9900; omega) ?_
  have eN : (!PyData.eqv (.list ((T₅.map (·.2)).map askD)) (.list ((T₆.map (·.2)).map askD))) = false := by
    rw [eT₅, eT₆, ← seq, PySem.SeqAt.eqv_refl _ (PySem.SeqAt.canLay_of_shaped (askL_shaped _))]; rfl
  rw [eN]
  iterate 3 walk1
  dsimp only
  refine h d' B₇ _ s₉ (hl₂.trans (hl₆.trans hl₇)) (by repeat (first | exact Only.refl _ _ | refine Only.put ?_ (by decide) _)) (fun j hj => by repeat (first | exact rfl | refine (put_other _ _ (by simp [hj])).trans ?_)) F₉
end

end
section
section
variable {prog : Program} {w : World} {A : Around} {E : Value → Shared → Prop} {s₀ s : Shared} {R Z B B' : View} {V V' : Dyn} {L l : Addr} {m mg mb : Str → Option Value} {n : Nat} {o : Obj} {vs : List Value} {ns : List Int}
theorem CellV.mv {P : Params} {j : Nat} {c : Addr} {nm : Str} {v : Option Value} (x : CellV P L V j c nm v) (e : V' (11, j) = V (11, j)) : CellV P L V' j c nm v := ⟨let ⟨o, h1, h2⟩ := x.ex; ⟨o, e.trans h1, h2⟩, x.lk⟩
theorem TupAt.mv {i : Nat × Nat} {a : Addr} {ps : List Pr} (x : TupAt B V i a ps) (hl : B.le B') (e : V' i = V i) : TupAt B' V' i a ps := let ⟨T, k, h1, h2, h3⟩ := x.ex; ⟨T, k, e.trans h1, h2.le hl, h3⟩
/-- the cells of the law, all empty -/
structure Cells0 (P : Params) (L : Addr) (V : Dyn) : Prop where
  c12 : CellV P L V 12 (L + 1) (Str.ofString "top") none
  c11 : CellV P L V 11 (L + 1 + 1) (Str.ofString "size") none
  c10 : CellV P L V 10 (L + 1 + 1 + 1) (Str.ofString "k") none
  c9 : CellV P L V 9 (L + 1 + 1 + 1 + 1) (Str.ofString "lows") none
  c8 : CellV P L V 8 (L + 1 + 1 + 1 + 1 + 1) (Str.ofString "highs") none
  c7 : CellV P L V 7 (L + 1 + 1 + 1 + 1 + 1 + 1) (Str.ofString "leads") none
  c6 : CellV P L V 6 (L + 1 + 1 + 1 + 1 + 1 + 1 + 1) (Str.ofString "found") none
  c5 : CellV P L V 5 (L + 1 + 1 + 1 + 1 + 1 + 1 + 1 + 1) (Str.ofString "j") none
  c4 : CellV P L V 4 (L + 1 + 1 + 1 + 1 + 1 + 1 + 1 + 1 + 1) (Str.ofString "meet") none
  c3 : CellV P L V 3 (L + 1 + 1 + 1 + 1 + 1 + 1 + 1 + 1 + 1 + 1) (Str.ofString "asked") none
  c2 : CellV P L V 2 (L + 1 + 1 + 1 + 1 + 1 + 1 + 1 + 1 + 1 + 1 + 1) (Str.ofString "classes") none
  c1 : CellV P L V 1 (L + 1 + 1 + 1 + 1 + 1 + 1 + 1 + 1 + 1 + 1 + 1 + 1) (Str.ofString "follows") none
  c0 : CellV P L V 0 (L + 1 + 1 + 1 + 1 + 1 + 1 + 1 + 1 + 1 + 1 + 1 + 1 + 1) (Str.ofString "variables") none
set_option maxHeartbeats 4000000 in
/-- the law's whole body -/
theorem law_walk {Q : Flow → Shared → Prop} (F : St s₀ R Z B V L m s) (Cc : Cx w mg mb Z) (hA : Lv 30 A) (ho : B l = some o) (hc : o.cls = .type "list") (hd : o.data = .seq vs.toArray n) (hI : IntsAre vs ns) (h63 : vs.length ≤ 63)
    (hm : m (Str.ofString "script") = some (.ref l)) (hV8 : ∀ i, i.1 ∈ [8] → V i = none) (hH : HeadOK mg Z) (v12 : V (12, 0) = some (432, tabObj #[])) (K : Cells0 w.params L V)
    (h : ∀ d B' V' m' s', (∃ ps, V' (12, 0) = some (432, tabObj ps)) → St (bumped s₀ d) R Z B' V' L m' s' → Q (.ret (.bool true)) s') : wpAny (model prog w) A (execs (lawB w.params) (lawEnv w.params L)) Q E s := by
  refine ph_A1 F Cc hA ho hc hd hI h63 hm hV8 (fun B₁ V₁ m₁ s₁ top clsl kc G hl₁ on₁ h11₁ c12 c2 hm₁ hcl hcls F₁ => ?_) K.c12 K.c2
  have hV8₁ : ∀ i, i.1 ∈ [8] → V₁ i = none := fun i hi => (on₁ i (by simp at hi; simp [hi])).trans (hV8 i hi)
  refine ph_A2 F₁ Cc hA (hl₁ _ _ ho) hc hd hI h63 hm₁ hV8₁ (fun B₂ V₂ m₂ s₂ va kv G' hl₂ on₂ h11₂ c11e c0 hm₂ hva hvars F₂ => ?_) c12 (K.c11.mv (h11₁ 11 (by decide) (by decide))) (K.c0.mv (h11₁ 0 (by decide) (by decide)))
  obtain ⟨t, c11⟩ := c11e
  clear F F₁
  have hV8₂ : ∀ i, i.1 ∈ [8] → V₂ i = none := fun i hi => (on₂ i (by simp at hi; simp [hi])).trans (hV8₁ i hi)
  have hsz1 : 1 ≤ sizeOf ns ∧ sizeOf ns ≤ 5 := by
    have h1 := sizeOf_eq ns
    have h2 := Int.fmod_nonneg_of_pos (ns.getD 0 3) (show (0:Int) < 5 by omega)
    have h3 := Int.fmod_lt_of_pos (ns.getD 0 3) (show (0:Int) < 5 by omega)
    omega
  obtain ⟨D, eDn, eDi, eDv, eDc, eDt, eDe⟩ : ∃ D : Dom, D.n = sizeOf ns ∧ (∀ j, D.id j = (G' j).2) ∧ (∀ j, D.var j = (G' j).1) ∧ (∀ j, D.cls j = (G j).1) ∧ (∀ j, D.ti j = (G j).2.1) ∧ (∀ j, D.emp j = (G j).2.2) :=
    ⟨⟨sizeOf ns, fun j => (G' j).2, fun j => (G' j).1, fun j => (G j).1, fun j => (G j).2.1, fun j => (G j).2.2⟩, rfl, fun _ => rfl, fun _ => rfl, fun _ => rfl, fun _ => rfl, fun _ => rfl⟩
  have hD : DomOK D B₂ := by
    refine ⟨by omega, by omega, fun k hk => ?_, fun k hk => ?_, fun j hj => ?_, fun j hj => ?_, fun j hj => ?_⟩
    · rw [eDi]; exact (hvars k (by omega)).1
    · rw [eDi, eDv]; exact (hvars k (by omega)).2
    · rw [eDc, eDt, eDe]; exact ((hcls j hj).le hl₂).1
    · rw [eDe]; exact ((hcls j hj).le hl₂).2.1
    · rw [eDt]; exact ((hcls j hj).le hl₂).2.2
  have hva₂ : B₂ va = some (listO ((List.range D.n).map fun j => .ref (D.var j)) kv) := by
    rw [hva, eDn]; congr 2; exact List.map_congr_left fun j _ => by rw [eDv]
  have hca₂ : B₂ clsl = some (listO ((List.range 3).map fun j => .ref (D.cls j)) kc) := by
    rw [hl₂ _ _ hcl]; congr 2; exact List.map_congr_left fun j _ => by rw [eDc]
  clear hva hcl hcls hvars
  have q9 : CellV w.params L V₂ 9 (L + 1 + 1 + 1 + 1) (Str.ofString "lows") none := K.c9.mv ((h11₂ 9 (by decide) (by decide)).trans (h11₁ 9 (by decide) (by decide)))
  have q8 : CellV w.params L V₂ 8 (L + 1 + 1 + 1 + 1 + 1) (Str.ofString "highs") none := K.c8.mv ((h11₂ 8 (by decide) (by decide)).trans (h11₁ 8 (by decide) (by decide)))
  have q2 : CellV w.params L V₂ 2 (L + 1 + 1 + 1 + 1 + 1 + 1 + 1 + 1 + 1 + 1 + 1) (Str.ofString "classes") (some (.ref clsl)) := c2.mv (h11₂ 2 (by decide) (by decide))
  have ho₂ := hl₂ _ _ (hl₁ _ _ ho)
  with_reducible refine ph_B F₂ Cc hA ho₂ hc hd hI h63 hm₂ hV8₂ hD eDn (fun B₃ V₃ m₃ s₃ C lc lp ll lh k0 hl₃ on₃ h11₃ c9 c8 hm₃ hmc hmp v130 hC eC tP tL tH F₃ => ?_) c11 q9 q8 q2 c0 hva₂ hca₂
  clear F₂
  have hl₀₃ := hl₂.trans hl₃
  have h11₀₃ : ∀ j, j ≠ 12 → j ≠ 2 → j ≠ 11 → j ≠ 0 → j ≠ 9 → j ≠ 8 → V₃ (11, j) = V (11, j) := fun j a b c d e f => (h11₃ j e f).trans ((h11₂ j c d).trans (h11₁ j a b))
  have v12₃ : V₃ (12, 0) = some (432, tabObj #[]) := (on₃ (12, 0) (by decide)).trans ((on₂ (12, 0) (by decide)).trans ((on₁ (12, 0) (by decide)).trans v12))
  have hD₃ := hD.le hl₃
  have hva₃ := hl₃ _ _ hva₂
  have hca₃ := hl₃ _ _ hca₂
  refine ph_C F₃ Cc hA (hl₃ _ _ (hl₂ _ _ (hl₁ _ _ ho))) hc hd hI h63 hm₃ hD₃ hH v12₃ hmc hmp (fun B₄ V₄ m₄ s₄ al fi pt hl₄ on₄ h11₄ k3 k1 k2 k0' hInf aS v12₄ hm₄ hmc₄ hmp₄ hmi F₄ => ?_)
    (K.c3.mv (h11₀₃ 3 (by decide) (by decide) (by decide) (by decide) (by decide) (by decide))) (K.c1.mv (h11₀₃ 1 (by decide) (by decide) (by decide) (by decide) (by decide) (by decide))) (c2.mv ((h11₃ 2 (by decide) (by decide)).trans (h11₂ 2 (by decide) (by decide)))) (c0.mv (h11₃ 0 (by decide) (by decide))) hva₃ hca₃
  clear F₃
  have hD₄ := hD₃.le hl₄
  have hva₄ := hl₄ _ _ hva₃
  have hok : ∀ x ∈ (numsOf ns).map (conOf D.n), Con.ok D.n x := fun x hx => by
    obtain ⟨z, _, rfl⟩ := List.mem_map.mp hx
    exact conOf_ok (by omega) z
  have hlen8 : ((numsOf ns).map (conOf D.n)).length ≤ 8 := by rw [List.length_map]; exact numsOf_len ns
  generalize hcons : (numsOf ns).map (conOf D.n) = cons at eC tP tL tH hok hlen8
  have lenP : (pairsL cons).length ≤ 8 := by unfold pairsL; rw [List.length_map]; exact Nat.le_trans (List.length_filter_le _ _) hlen8
  have lenL : (lowsL cons).length ≤ 8 := by unfold lowsL; rw [List.length_map]; exact Nat.le_trans (List.length_filter_le _ _) hlen8
  have lenH : (highsL cons).length ≤ 8 := by unfold highsL; rw [List.length_map]; exact Nat.le_trans (List.length_filter_le _ _) hlen8
  have hC8 : C.length ≤ 8 := by have := congrArg List.length eC; rw [List.length_map] at this; omega
  generalize folOf ns = fo at k1 hInf
  refine ph_D F₄ Cc hA hD₄ hmc₄ hmi hmp₄ (fun B₅ V₅ m₅ s₅ g du dl Gr lo up asks hl₅ on₅ v131 v132 h11₅ hmp₅ hmg hml hmu tH₅ hge gi rlo rup aS₅ run hal F₅ => ?_) k3 k1 k0' (c8.mv (h11₄ 8 (by decide) (by decide) (by decide) (by decide))) hInf aS hva₄
    ((on₄ (13, 0) (by decide)).trans v130) (fun p hp => (hC p hp).le hl₄) hC8 (tH.mv hl₄ (on₄ (13, 3) (by decide))) lenH
  obtain ⟨kg, hgv⟩ := hge
  clear F₄
  rw [eC] at run
  have hEnd := run_ends hD.n1 hok run
  obtain ⟨TP, kp, vP, hTP, eTP⟩ := (tP.mv (hl₄.trans hl₅) (v131.trans (on₄ (13, 1) (by decide)))).ex
  obtain ⟨TL, kl, vL, hTL, eTL⟩ := (tL.mv (hl₄.trans hl₅) (v132.trans (on₄ (13, 2) (by decide)))).ex
  obtain ⟨TH, kh, vH, hTH, eTH⟩ := tH₅.ex
  obtain ⟨B₆, hl₆, hlp, F₆⟩ := F₅.settle' vP
  obtain ⟨B₇, hl₇, hll, F₇⟩ := F₆.settle' (i := (13, 2)) ((del_other _ (by decide)).trans vL)
  obtain ⟨B₈, hl₈, hlh, F₈⟩ := F₇.settle' (i := (13, 3)) ((del_other _ (by decide)).trans ((del_other _ (by decide)).trans vH))
  have on₈ : Only [13] V₅ (((V₅.del (13, 1)).del (13, 2)).del (13, 3)) := (((Only.refl _ _).del (by decide)).del (by decide)).del (by decide)
  generalize ((V₅.del (13, 1)).del (13, 2)).del (13, 3) = V₈ at F₈ on₈
  clear F₅ F₆ F₇
  have hl₅₈ := hl₆.trans (hl₇.trans hl₈)
  have hl₄₈ := hl₅.trans hl₅₈
  replace hlp := hl₈ _ _ (hl₇ _ _ hlp)
  replace hll := hl₈ _ _ hll
  have hTP₈ := hTP.le hl₅₈
  have hTL₈ := hTL.le hl₅₈
  have hTH₈ := hTH.le hl₅₈
  have hD₈ := hD₄.le hl₄₈
  have h11₈ : ∀ j, j ≠ 0 → j ≠ 1 → j ≠ 2 → j ≠ 3 → V₈ (11, j) = V₃ (11, j) := fun j a b c d => (on₈ (11, j) (by simp)).trans ((h11₅ j).trans (h11₄ j a b c d))
  have e11 : (some (.int (1 + (ns.getD 0 3).fmod 5) t) : Option Value) = some (.int (D.n : Int) t) := by rw [sizeOf_eq, eDn]
  rw [e11] at c11
  have c11₈ : CellV w.params L V₈ 11 (L + 1 + 1) (Str.ofString "size") (some (.int (D.n : Int) t)) := c11.mv ((h11₈ 11 (by decide) (by decide) (by decide) (by decide)).trans (h11₃ 11 (by decide) (by decide)))
  have c0₈ : ∀ {j : Nat} {c : Addr} {nm : Str} {v : Option Value}, CellV w.params L V j c nm v → j ≠ 12 → j ≠ 2 → j ≠ 11 → j ≠ 0 → j ≠ 9 → j ≠ 8 → j ≠ 1 → j ≠ 3 → CellV w.params L V₈ j c nm v := fun x a b c d e f p q => x.mv ((h11₈ _ d p b q).trans (h11₀₃ _ a b c d e f))
  refine ph_E F₈ Cc hA hD₈ hmp₅ hlp hTP₈ eTP (pairs_ok hok) lenP (fun B₉ V₉ s₉ la FL kk hl₉ on₉ h11₉ c7 c10e hla hFL hex F₉ => ?_) c11₈
    (c0₈ K.c10 (by decide) (by decide) (by decide) (by decide) (by decide) (by decide) (by decide) (by decide)) (c0₈ K.c7 (by decide) (by decide) (by decide) (by decide) (by decide) (by decide) (by decide) (by decide)) (c0₈ K.c6 (by decide) (by decide) (by decide) (by decide) (by decide) (by decide) (by decide) (by decide)) (c0₈ K.c5 (by decide) (by decide) (by decide) (by decide) (by decide) (by decide) (by decide) (by decide))
  obtain ⟨vk, c10⟩ := c10e
  clear F₈
  have hF : ∀ i, ∃ f : List Nat, i < D.n → (∃ x ws k', FL[i]? = some x ∧ B₉ x = some (listO ws k') ∧ IntsAre ws (natsI f) ∧ f.length ≤ 45) ∧ ∀ b, b ∈ f ↔ WayL (pairsL cons) i b := fun i => by
    by_cases hi : i < D.n
    · obtain ⟨ws, f, k', h1, h2, h3, _, h5⟩ := hex i FL[i] (List.getElem?_eq_getElem (by omega))
      exact ⟨f, fun _ => ⟨⟨FL[i], ws, k', List.getElem?_eq_getElem (by omega), h1, h2, h3⟩, h5⟩⟩
    · exact ⟨[], fun h => absurd h hi⟩
  obtain ⟨Ld, hLd⟩ := Classical.skolem.mp hF
  clear hF hex
  have hLw : ∀ i, i < D.n → ∀ b, b ∈ Ld i ↔ WayL (pairsL cons) i b := fun i hi => (hLd i hi).2
  have hLA : LdAt B₉ FL Ld D.n := ⟨hFL, fun i hi => (hLd i hi).1⟩
  have eH : TH.map (·.2) = highsL cons ++ (if fo = true ∧ (csOf Gr lo up [] asks).asks ≠ [] then [(0, 2)] else []) := by
    rw [eTH]
    cases asks with
    | nil => rw [if_neg (fun q => q.2 rfl), if_neg (fun q => q.2 rfl)]
    | cons a r =>
      congr 1
      by_cases hfo : fo = true
      · rw [if_pos ⟨hfo, by simp⟩, if_pos ⟨hfo, by simp [csOf]⟩]
      · rw [if_neg (fun q => hfo q.1), if_neg (fun q => hfo q.1)]
  have hn1 := hD.n1
  have lenTL : TL.length ≤ 9 := by have := congrArg List.length eTL; rw [List.length_map] at this; omega
  have lenTH : TH.length ≤ 9 := by
    have := congrArg List.length eTH
    rw [List.length_map, List.length_append] at this
    split at this <;> simp at this <;> omega
  have hTLn : ∀ p ∈ TL, p.2.1 < D.n ∧ p.2.2 < 3 := fun p hp => lows_ok hok p.2 (by rw [← eTL]; exact List.mem_map_of_mem hp)
  have hTHn : ∀ p ∈ TH, p.2.1 < D.n ∧ p.2.2 < 3 := fun p hp => highs_ok (fo := fo) (asks := (csOf Gr lo up [] asks).asks) hn1 hok p.2 (by rw [← eH]; exact List.mem_map_of_mem hp)
  have hl₀₉ := hl₄₈.trans hl₉
  have hD₉ := hD₄.le hl₀₉
  have hll₉ := hl₉ _ _ hll
  have hlh₉ := hl₉ _ _ hlh
  have hTL₉ := hTL₈.le hl₉
  have hTH₉ := hTH₈.le hl₉
  have gi₉ := gi.le (hl₅₈.trans hl₉)
  have hva₉ := hl₀₉ _ _ hva₄
  have k0₉ := k0'.le hl₀₉
  have on₅₉ : Only [11, 13, 14, 15] V₅ V₉ := (on₈.mono (by decide)).trans (on₉.mono (by decide))
  have c11₉ := c11₈.mv (h11₉ 11 (by decide) (by decide) (by decide) (by decide))
  have c9₉ : CellV w.params L V₉ 9 (L + 1 + 1 + 1 + 1) (Str.ofString "lows") (some (.ref ll)) := c9.mv ((h11₉ 9 (by decide) (by decide) (by decide) (by decide)).trans (h11₈ 9 (by decide) (by decide) (by decide) (by decide)))
  have c8₉ : CellV w.params L V₉ 8 (L + 1 + 1 + 1 + 1 + 1) (Str.ofString "highs") (some (.ref lh)) := c8.mv ((h11₉ 8 (by decide) (by decide) (by decide) (by decide)).trans (h11₈ 8 (by decide) (by decide) (by decide) (by decide)))
  have c4₉ : CellV w.params L V₉ 4 (L + 1 + 1 + 1 + 1 + 1 + 1 + 1 + 1 + 1) (Str.ofString "meet") none := (c0₈ K.c4 (by decide) (by decide) (by decide) (by decide) (by decide) (by decide) (by decide) (by decide)).mv (h11₉ 4 (by decide) (by decide) (by decide) (by decide))
  have hask : ∀ q, q ∈ asks.map (·.2) ↔ q.1 < 2 ∧ ∃ p ∈ TL, ∃ r ∈ TH, r.2.1 ∈ Ld p.2.1 ∧ q.2.1 = p.2.2 ∧ q.2.2 = r.2.2 := fun q => by
    refine (fin_asks hEnd hn1 hok hLw eTL eH q).trans (and_congr Iff.rfl ?_)
    constructor
    · rintro ⟨p, hp, r, hr, hx⟩
      obtain ⟨p', hp', rfl⟩ := List.mem_map.mp hp
      obtain ⟨r', hr', rfl⟩ := List.mem_map.mp hr
      exact ⟨p', hp', r', hr', hx⟩
    · rintro ⟨p, hp, r, hr, hx⟩
      exact ⟨p.2, List.mem_map_of_mem hp, r.2, List.mem_map_of_mem hr, hx⟩
  have hlom : ∀ k, k < D.n → ∀ j, j < 3 → (j ∈ lo k ↔ ∃ p ∈ TL, p.2.2 = j ∧ k ∈ Ld p.2.1) := fun k hk j _ => by
    refine (fin_lo hEnd hok hLw hk j).trans ?_
    rw [← eTL]
    constructor
    · rintro ⟨p, hp, hx⟩
      obtain ⟨p', hp', rfl⟩ := List.mem_map.mp hp
      exact ⟨p', hp', hx⟩
    · rintro ⟨p, hp, hx⟩
      exact ⟨p.2, List.mem_map_of_mem hp, hx⟩
  have hupm : ∀ k, k < D.n → ∀ j, j < 3 → (j ∈ up k ↔ ∃ p ∈ TH, p.2.2 = j ∧ p.2.1 ∈ Ld k) := fun k hk j _ => by
    refine (fin_up hEnd hLw hk j).trans ?_
    rw [← eH]
    constructor
    · rintro ⟨p, hp, hx⟩
      obtain ⟨p', hp', rfl⟩ := List.mem_map.mp hp
      exact ⟨p', hp', hx⟩
    · rintro ⟨p, hp, hx⟩
      exact ⟨p.2, List.mem_map_of_mem hp, hx⟩
  have hGn : (Gr.map (·.2)).Nodup := hEnd.pn
  have hGm : ∀ a b, (a, b) ∈ Gr.map (·.2) ↔ a < D.n ∧ b < D.n ∧ b ∈ Ld a := fin_p hEnd hLw
  have hG64 : Gr.length < 64 := by
    have h1 := fin_len hEnd hD.n5
    have h1 : (Gr.map (·.2)).length ≤ 25 := h1
    rw [List.length_map] at h1; omega
  refine ph_F F₉ Cc hA hD₉ hla hLA hll₉ hTL₉ lenTL hTLn hlh₉ hTH₉ lenTH hTHn (aS₅.le (hl₅₈.trans hl₉) (on₅₉ (9, 0) (by decide))) (fun p hp => asks_ok hEnd hn1 hok p.2 (List.mem_map_of_mem (f := (·.2)) hp)) hask (fun d Ba Va sa hla' ona h11a Fa => ?_) (k3.le hl₀₉) c4₉ c7 c9₉ c8₉
  clear F₉
  have on₅a : Only [11, 13, 14, 15] V₅ Va := on₅₉.trans (ona.mono (by decide))
  refine ph_G Fa Cc hA (hD₉.le hla') hmg ((on₅a (1, 0) (by decide)).trans hgv) (gi₉.le hla') hGn hGm hG64 (hla' _ _ hla) (hLA.le hla') (fun Bb Vb mb' sb hlb onb hmb Fb => ?_) (c11₉.mv (h11a 11 (by decide))) (c7.mv (h11a 7 (by decide)))
  clear Fa
  have hlab := hla'.trans hlb
  have on₅b : Only [11, 13, 14, 15] V₅ Vb := on₅a.trans (onb.mono (by decide))
  have h11b : ∀ j, j ≠ 4 → Vb (11, j) = V₉ (11, j) := fun j hj => (onb (11, j) (by simp)).trans (h11a j hj)
  have n1 := hmb (Str.ofString "graph") (by decide +kernel) (by decide +kernel)
  have n2 := hmb (Str.ofString "lowers") (by decide +kernel) (by decide +kernel)
  have n3 := hmb (Str.ofString "uppers") (by decide +kernel) (by decide +kernel)
  refine ph_H Fb Cc hA (hD₉.le hlab) (n2.trans hml) (n3.trans hmu) (rlo.only on₅b (by decide)) (rup.only on₅b (by decide)) (hlab _ _ hla) (hLA.le hlab) (hlab _ _ hva₉) (k0₉.le hlab) (hlab _ _ hll₉) (hTL₉.le hlab) lenTL (fun p hp => (hTLn p hp).1) (hlab _ _ hlh₉) (hTH₉.le hlab) lenTH (fun p hp => (hTHn p hp).1) hlom hupm
    (fun Bc Vc mc sc hlc onc h11c c10e hmc' Fc => ?_) (c11₉.mv (h11b 11 (by decide))) (c10.mv (h11b 10 (by decide))) (c7.mv (h11b 7 (by decide))) (c9₉.mv (h11b 9 (by decide))) (c8₉.mv (h11b 8 (by decide)))
  clear Fb
  obtain ⟨vk', c10c⟩ := c10e
  have hlac := hlab.trans hlc
  have on₅c : Only [11, 13, 14, 15, 16] V₅ Vc := (on₅b.mono (by decide)).trans (onc.mono (by decide))
  have o1 := hmc' (Str.ofString "graph") (by decide +kernel) (by decide +kernel)
  have o2 := hmc' (Str.ofString "lowers") (by decide +kernel) (by decide +kernel)
  have o3 := hmc' (Str.ofString "uppers") (by decide +kernel) (by decide +kernel)
  exact ph_I Fc Cc hA (hD₉.le hlac) (o1.trans (n1.trans hmg)) (o2.trans (n2.trans hml)) (o3.trans (n3.trans hmu)) ((on₅c (1, 0) (by decide)).trans hgv) (gi₉.le hlac) (rlo.only on₅c (by decide)) (rup.only on₅c (by decide)) hGm (hlac _ _ hla) (hLA.le hlac) (hlac _ _ hva₉) (k0₉.le hlac)
    (c11₉.mv ((h11c 11 (by decide)).trans (h11b 11 (by decide)))) c10c (c7.mv ((h11c 7 (by decide)).trans (h11b 7 (by decide)))) fun B' V' m' s' _ onE F' => h d B' V' m' s' ⟨pt, (onE (12, 0) (by decide)).trans ((on₅c (12, 0) (by decide)).trans ((on₅ (12, 0) (by decide)).trans v12₄))⟩ F'
end

end
section
section
variable {prog : Program} {w : World} {s : Shared} {mg mb : Str → Option Value} {h : Heap}
theorem zof_ns {a : Addr} {m : Str → Option Value} (x : h.Ns a m) (hn : a ≠ 432) : (Zof h).Ns a m := let ⟨o, es, ep, e, r⟩ := x; ⟨o, es, ep, Zof_some e hn, r⟩
theorem top_cx {p : Program} {loose : List Str} {mean : ExcName → Option Value} (T : Top p loose mean mg mb h) (X : (hd.heap_39 w.params).In h) : Cx w mg mb (Zof h) where
  k := fun a o e => Zof_some (X a o e) (fun q => by
    subst q
    have : List.lookup 432 (hd.heap_39 w.params) = none := by kernel_rfl
    have e : List.lookup 432 (hd.heap_39 w.params) = some o := e
    rw [this] at e; cases e)
  g := zof_ns T.g (by decide)
  b := zof_ns T.b (by decide)
  lim := let ⟨mc, a, b⟩ := T.nolimit; ⟨mc, zof_ns a (by decide), b⟩
  bi := T.builtins
theorem top_head {p : Program} {loose : List Str} {mean : ExcName → Option Value} (T : Top p loose mean mg mb h) (hT : TabsAt [(434, 432)] h) : HeadOK mg (Zof h) := fun h' k => by
  obtain ⟨hc, h432⟩ := hT (434, 432) (by simp)
  obtain ⟨o, vs, file, tf, flags, tg, inF, text, tt, e, r⟩ := hc
  refine ⟨⟨o, vs, file, tf, flags, tg, inF, text, tt, k _ _ (Zof_some e (by decide)), r⟩, ?_⟩
  obtain ⟨bm, ob, h1, h2, h3, h4, h5, h6⟩ := T.bmain
  have n1 : bm ≠ mainGlobals := fun q => by
    subst q
    obtain ⟨o', es, ep, e1, e2, _⟩ := T.g
    rw [h3] at e1; cases e1
    rw [h6] at e2; cases e2
  have n2 : bm ≠ 432 := fun q => by
    subst q
    rw [h3] at h432; cases h432
    cases h4
  exact ⟨bm, ob, h1, h2, n1, n2, k _ _ (Zof_some h3 n2), h4, h5, h6⟩
theorem cells0_of {P : Params} {L : Addr} {rows : List (Addr × Obj)} {cm : Str → Option Value} (hr : CellRows (cellsFrom (L + 1) (lawInfo P).1.scope.names []) cm rows) (hc : ∀ n, cm n = none) : Cells0 P L (rowsV Vof 11 rows) := by
  have key : ∀ (j : Nat) (nm : Str) (c : Addr), (cellsFrom (L + 1) (lawInfo P).1.scope.names [])[j]? = some (nm, c) → ∃ o, rowsV Vof 11 rows (11, j) = some (c, o) ∧ o.data = .cell none := fun j nm c e => by
    obtain ⟨o, h1, h2⟩ := hr.2 j nm c e
    refine ⟨o, ?_, by rw [h2, hc]⟩
    have hlt : j < rows.length := (List.getElem?_eq_some_iff.mp h1).1
    unfold rowsV
    rw [if_pos rfl, if_pos hlt]
    exact h1
  exact ⟨⟨key 12 _ _ rfl, rfl⟩, ⟨key 11 _ _ rfl, rfl⟩, ⟨key 10 _ _ rfl, rfl⟩, ⟨key 9 _ _ rfl, rfl⟩, ⟨key 8 _ _ rfl, rfl⟩, ⟨key 7 _ _ rfl, rfl⟩, ⟨key 6 _ _ rfl, rfl⟩, ⟨key 5 _ _ rfl, rfl⟩, ⟨key 4 _ _ rfl, rfl⟩, ⟨key 3 _ _ rfl, rfl⟩, ⟨key 2 _ _ rfl, rfl⟩, ⟨key 1 _ _ rfl, rfl⟩, ⟨key 0 _ _ rfl, rfl⟩⟩
theorem rows_other {rows : List (Addr × Obj)} {i : Nat × Nat} (hi : i.1 ≠ 11) : rowsV Vof 11 rows i = Vof i := by
  unfold rowsV; rw [if_neg hi]
end

section
variable {prog : Program} {w : World} {s₁ : Shared} {mg mb : Str → Option Value}
set_option maxHeartbeats 4000000 in
theorem law_call {p : Program} {loose : List Str} {mean : ExcName → Option Value} {lA : Addr} {vs : List Value} {ns : List Int} (T : Top p loose mean mg mb s₁.heap) (X : (hd.heap_39 w.params).In s₁.heap) (hT : TabsAt [(434, 432)] s₁.heap) (hl : s₁.heap.IsList lA vs.toArray) (hI : IntsAre vs ns) (h63 : vs.length ≤ 63) :
    codeAny (model prog w) callerA (.call (.ref 435) ⟨[.ref lA], []⟩) (fun r s' => r = .ok (.ret (.bool true)) ∧ (∀ b o, b ≠ 432 → s₁.heap.get? b = some o → s'.heap.get? b = some o) ∧ s'.gens = s₁.gens ∧ s'.os = s₁.os ∧ ∃ ps, s'.heap.get? 432 = some (tabObj ps)) s₁ := by
  have Cc := top_cx T X
  have hH := top_head T hT
  have h432 := (hT (434, 432) (by simp)).2
  have hA : Lv 31 callerA := ⟨rfl, by decide, by decide⟩
  obtain ⟨o, ho, hc, n, hd⟩ := hl
  have hne : lA ≠ 432 := fun q => by
    subst q
    rw [ho] at h432; cases h432
    cases hc
  refine call_top (n := 31) (binds := [("script", .ref lA)]) 11 (top_start h432) Cc hA (lawInfo w.params).2 (by kernel_rfl) (BindsTo.of_eq rfl) (fun n x hx => by simp at hx; subst hx; exact .inl rfl) (by
    have e : (cellsFrom 0 (lawInfo w.params).1.scope.names []).map (·.1) = [Str.ofString "variables", Str.ofString "follows", Str.ofString "classes", Str.ofString "asked", Str.ofString "meet", Str.ofString "j", Str.ofString "found", Str.ofString "leads", Str.ofString "highs", Str.ofString "lows", Str.ofString "k", Str.ofString "size", Str.ofString "top"] := rfl
    exact e ▸ (by decide +kernel)) fun L' s' rows hr F hlk => ?_
  refine law_walk F Cc hA.deeper (Zof_some ho hne) hc hd hI h63 rfl (fun i hi => ?_) hH ((rows_other (by decide)).trans rfl) (cells0_of hr fun n => rfl) fun d B' V' m' s'' hps F' => ?_
  · simp at hi
    rw [rows_other (by rw [hi]; decide)]
    unfold Vof
    rw [if_neg (fun q => by rw [q] at hi; cases hi)]
  · obtain ⟨ps, hps⟩ := hps
    exact ⟨rfl, fun b o hb e => (F'.b _ _ (F'.z _ _ (Zof_some e hb))).1, F'.same.gens, F'.same.os, ps, (F'.v _ _ _ hps).1⟩
end

set_option maxHeartbeats 8000000 in
theorem law_good : PySem.Challenge.rw_ft0019_01.Holds := hd (by
  k_fill
  intro w s₀ s₁ mg mb G Y fa o pm cd doc dV kV ho hd hcd hD hmg hg args vals as hpre hlay hrd hwl hlo
  have KX := km_in_of Y
  km_tabs Y
  have X := (Ground.X G).1
  have V := (Ground.X G).2
  refine Ground.open G ?_
  intro T B D TE TW
  try (refine guard_noD D (by decide +kernel) ?_; clear D)
  have hmg' := hmg
  km_lay T hmg ho hd cd
  clear hmg
  wrow_args hpre hlay hrd hwl hlo
  all_goals (first | refine callC_kw (enter_call ?_) | refine enter_call ?_)
  rename_i ns _ _ _ _ _ asA _ lA vs _ hLs _ _ _ hIs _ hcond _
  have efa : fa = 435 := by
    have h1 := mg_of KX T.g (n := Str.ofString "law") (v := .ref 435) (by kernel_rfl)
    have h2 := hmg'.symm.trans h1
    injection h2 with h2
    injection h2
  subst efa
  clear ho hd hcd hD hmg' X V B TE TW
  refine kn_post hT9 (fun a x => rfl) ?_
  refine codeAny_mono (law_call T KX hT9 hLs hIs (by have := hIs.length; omega)) fun r s' hx => ?_
  obtain ⟨rfl, hk, hg', ho', ps, hps⟩ := hx
  refine ⟨⟨.inl ⟨_, .bool true, [], rfl, fun _ => rfl, ReadsW.bool _, ?_, fun _ => ⟨List.nodup_nil, fun a ha => nomatch ha⟩⟩, fun b o e => ?_, ho', hg'.trans hg⟩, ⟨ps, hps⟩, trivial⟩
  · wrow_post
  · have e1 := of_hideAll _ e
    refine hk b o (fun q => ?_) e1
    subst q
    rw [hideAll_none _ (by simp)] at e
    cases e)

end
end Mine

theorem PySem.Challenge.cw_ft0019_01_holds : PySem.Challenge.rw_ft0019_01.Holds :=
  Mine.law_good
