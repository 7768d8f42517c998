/- Memory facts used by the walks: one world extends another outside a set of blocks; rows of bytes. No condition: these are helper lemmas over any world. More ways to take a fresh letter for a world. -/
import Derived.WalkKit
import Derived.WalkSpells
import Derived.WalkLawsBesides
import Derived.WalkSmall
import Derived.BigQuiet
import Derived.Lib.Hide
import Derived.Lib.Buffer
import Derived.Lib.BufferMore
import Derived.Lib.UnsafeStr
import Derived.Laws.CopyRow
import Derived.Laws.IdiomStrings

set_option linter.unusedVariables false
set_option linter.unusedSimpArgs false
set_option linter.unusedSectionVars false

section
namespace Go.Proofs.YtocjfcgailkfjaaGreatDoor
open Go.RowKit

/-- Outside the blocks of S the world w' is as w was; blocks may have come. -/
structure Ext (S : Nat → Prop) (w w' : World) : Prop where
  os : w'.os = w.os
  tape : w'.tape = w.tape
  output : w'.output = w.output
  size : w.heap.size ≤ w'.heap.size
  block : ∀ k, k < w.heap.size → ¬ S k → w'.heap[k]? = w.heap[k]?

abbrev none_ : Nat → Prop := fun _ => False

theorem Ext.refl (S : Nat → Prop) (w : World) : Ext S w w := ⟨rfl, rfl, rfl, Nat.le_refl _, fun _ _ _ => rfl⟩

theorem Ext.trans {S : Nat → Prop} {a b c : World} (h : Ext S a b) (k : Ext S b c) : Ext S a c :=
  ⟨k.os.trans h.os, k.tape.trans h.tape, k.output.trans h.output, Nat.le_trans h.size k.size, fun i hi hs => (k.block i (Nat.lt_of_lt_of_le hi h.size) hs).trans (h.block i hi hs)⟩

/-- A second step may touch what the first one made. -/
theorem Ext.trans' {S S' : Nat → Prop} {a b c : World} (h : Ext S a b) (k : Ext S' b c) (hs : ∀ i, i < a.heap.size → S' i → S i) : Ext S a c :=
  ⟨k.os.trans h.os, k.tape.trans h.tape, k.output.trans h.output, Nat.le_trans h.size k.size, fun i hi hn => (k.block i (Nat.lt_of_lt_of_le hi h.size) (fun hh => hn (hs i hi hh))).trans (h.block i hi hn)⟩

theorem Ext.mono {S S' : Nat → Prop} {a b : World} (h : Ext S a b) (hs : ∀ i, i < a.heap.size → S i → S' i) : Ext S' a b :=
  ⟨h.os, h.tape, h.output, h.size, fun i hi hn => h.block i hi (fun hh => hn (hs i hi hh))⟩

theorem Ext.get {S : Nat → Prop} {w w' : World} (h : Ext S w w') {b : Nat} {o : Obj} (hb : w.heap[b]? = some o) (hs : ¬ S b) : w'.heap[b]? = some o := by
  rw [h.block b (lt_of_block hb) hs]; exact hb

theorem Ext.cell {S : Nat → Prop} {w w' : World} (h : Ext S w w') {p : Addr} (hp : p.block < w.heap.size) (hs : ¬ S p.block) : w'.cell? p = w.cell? p :=
  World.cell?_of_block (h.block p.block hp hs)

theorem Ext.drewN {S : Nat → Prop} {a w : World} (h : Ext S a w) (n : Nat) : Ext S a (w.drewN n) := ⟨h.os, h.tape, h.output, h.size, h.block⟩
theorem Ext.drew {S : Nat → Prop} {a w : World} (h : Ext S a w) : Ext S a w.drew := ⟨h.os, h.tape, h.output, h.size, h.block⟩
theorem Ext.alloc {S : Nat → Prop} {a w : World} (h : Ext S a w) (o : Obj) : Ext S a (w.alloc o) :=
  ⟨h.os, h.tape, h.output, by have := h.size; simp; omega, fun k hk hs => by
    rw [Below.heap_alloc _ _ _ (Nat.lt_of_lt_of_le hk h.size)]; exact h.block k hk hs⟩
theorem Ext.setCell {S : Nat → Prop} {a w : World} (h : Ext S a w) {p : Addr} (hp : p.block < a.heap.size → S p.block) (v : Value) : Ext S a (w.setCell p v) :=
  ⟨h.os, h.tape, h.output, by have := h.size; simpa using this, fun k hk hs => by
    by_cases e : k = p.block
    · exact absurd (by rw [e]; exact hp (by rw [← e]; exact hk)) hs
    · rw [Below.heap_setCell _ _ _ _ e]; exact h.block k hk hs⟩
theorem Ext.setRow {S : Nat → Prop} {a w : World} (h : Ext S a w) {g : Nat} (hp : g < a.heap.size → S g) (c : Array Value) : Ext S a (w.setRow g c) :=
  ⟨h.os, h.tape, h.output, by have := h.size; simpa using this, fun k hk hs => by
    by_cases e : k = g
    · exact absurd (by rw [e]; exact hp (by rw [← e]; exact hk)) hs
    · rw [setRow_other _ _ _ _ e]; exact h.block k hk hs⟩
theorem Ext.below {S : Nat → Prop} {w w' : World} (h : Ext S w w') (hs : ∀ k, k < w.heap.size → ¬ S k) : Below w.heap.size w w' :=
  ⟨h.os, h.tape, h.output, h.size, fun k hk => h.block k hk (hs k hk)⟩
theorem Ext.of_below {B : Nat} {w w' : World} (h : Below B w w') : Ext (fun k => B ≤ k) w w' :=
  ⟨h.os, h.tape, h.output, h.size, fun k _ hs => h.block k (Nat.lt_of_not_le hs)⟩
theorem Ext.of_grown {row : Option Nat} {w w' : World} (h : w.grownBy w' row) : Ext (fun k => row = some k) w w' :=
  ⟨h.os, h.tape, h.output, h.size, fun k hk hs => h.block k hk (fun e => hs e.symm)⟩

theorem Ext.setAt {S : Nat → Prop} {a w : World} (h : Ext S a w) {b i : Nat} (hp : a.heap.size ≤ b ∨ S b) (v : Value) : Ext S a (w.setCell ⟨b, i, none⟩ v) :=
  h.setCell (fun hlt => hp.elim (fun h1 => absurd (show b < a.heap.size from hlt) (Nat.not_lt.2 h1)) id) v
theorem Ext.zero {S : Nat → Prop} {w w' : World} (h : Ext none_ w w') : Ext S w w' := h.mono fun _ _ h => h.elim
theorem two_new (w : World) (a b : Obj) : ((w.alloc a).alloc b).heap[w.heap.size]? = some a ∧ ((w.alloc a).alloc b).heap[w.heap.size + 1]? = some b ∧ Ext none_ w ((w.alloc a).alloc b) :=
  ⟨by rw [Below.heap_alloc _ _ _ (by simp)]; exact heap_alloc_new w a, by have := heap_alloc_new (w.alloc a) b; rwa [World.size_alloc] at this, ((Ext.refl none_ w).alloc a).alloc b⟩

/-- w' is w behind some draws. -/
def Same (w w' : World) : Prop := ∃ n, w' = w.drewN n
theorem Same.heap {w w' : World} (h : Same w w') : w'.heap = w.heap := by obtain ⟨n, rfl⟩ := h; rfl
theorem Same.ext {S : Nat → Prop} {w w' : World} (h : Same w w') : Ext S w w' := by obtain ⟨n, rfl⟩ := h; exact (Ext.refl S w).drewN n
theorem Same.get {w w' : World} (h : Same w w') {b : Nat} {o : Obj} (hb : w.heap[b]? = some o) : w'.heap[b]? = some o := by rw [h.heap]; exact hb
theorem Same.of {w : World} (n : Nat) : Same w (w.drewN n) := ⟨n, rfl⟩
theorem Same.refl (w : World) : Same w w := ⟨0, rfl⟩
theorem Same.trans {a b c : World} (h : Same a b) (k : Same b c) : Same a c := by
  obtain ⟨n, rfl⟩ := h; obtain ⟨m, rfl⟩ := k; exact ⟨n + m, World.drewN_drewN _ _ _⟩

/-- A whole block behind a store. -/
theorem heap_set {w : World} {b i : Nat} {cs : Array Value} {T : TypeId} {fr : Nat × Nat} (hb : w.heap[b]? = some (.cells cs T fr)) (v : Value) :
    (w.setCell ⟨b, i, none⟩ v).heap[b]? = some (.cells (cs.setIfInBounds i v) T fr) := Lib.heap_setCell_same hb v
theorem heap_set_ne {w : World} {b i k : Nat} {v : Value} {o : Obj} (hk : w.heap[k]? = some o) (h : k ≠ b) : (w.setCell ⟨b, i, none⟩ v).heap[k]? = some o := by
  rw [Below.heap_setCell _ _ _ _ h]; exact hk
theorem heap_new (w : World) (o : Obj) : (w.alloc o).heap[w.heap.size]? = some o := heap_alloc_new w o
theorem heap_old {w : World} {k : Nat} {o x : Obj} (hk : w.heap[k]? = some o) : (w.alloc x).heap[k]? = some o := by
  rw [Below.heap_alloc _ _ _ (lt_of_block hk)]; exact hk

theorem byteCells_one (l : List UInt8) : ∀ v ∈ Lib.byteCells l, v.oneCell' = true := by
  intro v hv
  simp only [Lib.byteCells, List.mem_map] at hv
  obtain ⟨x, _, rfl⟩ := hv
  rfl

/-- The bytes l lie in block g from o on. -/
def BytesAt (w : World) (g o : Nat) (l : List UInt8) : Prop :=
  ∃ cur T fz, w.heap[g]? = some (.cells cur T fz) ∧ ∀ (j : Nat) x, l[j]? = some x → cur[o + j]? = some (.int .u8 x.toNat)

theorem BytesAt.lt {w : World} {g o : Nat} {l : List UInt8} (h : BytesAt w g o l) : g < w.heap.size := by obtain ⟨_, _, _, h, _⟩ := h; exact lt_of_block h
theorem BytesAt.of_heap {w w' : World} {g o : Nat} {l : List UInt8} (h : BytesAt w g o l) (e : w'.heap[g]? = w.heap[g]?) : BytesAt w' g o l := by
  obtain ⟨c, T, f, hb, r⟩ := h; exact ⟨c, T, f, e.trans hb, r⟩
theorem BytesAt.ext {S : Nat → Prop} {w w' : World} {g o : Nat} {l : List UInt8} (h : BytesAt w g o l) (e : Ext S w w') (hs : ¬ S g) : BytesAt w' g o l :=
  h.of_heap (e.block g h.lt hs)
theorem BytesAt.cell {w : World} {g o : Nat} {l : List UInt8} (h : BytesAt w g o l) {j : Nat} {x : UInt8} (hj : l[j]? = some x) : w.cell? ⟨g, o + j, none⟩ = some (.int .u8 x.toNat) := by
  obtain ⟨c, T, f, hb, r⟩ := h
  rw [Lib.cell_of_heap hb]; exact r j x hj
theorem BytesAt.drop {w : World} {g o : Nat} {l : List UInt8} (h : BytesAt w g o l) (k : Nat) : BytesAt w g (o + k) (l.drop k) := by
  obtain ⟨c, T, f, hb, r⟩ := h
  exact ⟨c, T, f, hb, fun j x hj => by rw [List.getElem?_drop] at hj; rw [Nat.add_assoc]; exact r _ _ hj⟩
theorem BytesAt.take {w : World} {g o : Nat} {l : List UInt8} (h : BytesAt w g o l) (k : Nat) : BytesAt w g o (l.take k) := by
  obtain ⟨c, T, f, hb, r⟩ := h
  exact ⟨c, T, f, hb, fun j x hj => by rw [List.getElem?_take] at hj; split at hj; exact r _ _ hj; cases hj⟩
/-- As a copy or a conversion asks the source's cells. -/
theorem BytesAt.src {w : World} {g o : Nat} {l : List UInt8} (h : BytesAt w g o l) : ∀ j v, (Lib.byteCells l)[j]? = some v → w.cell? ((⟨g, o, none⟩ : Addr).add j) = some v := by
  intro j v hj
  rw [Lib.addr_add]
  simp only [Lib.byteCells, List.getElem?_map, Option.map_eq_some_iff] at hj
  obtain ⟨x, hx, rfl⟩ := hj
  exact h.cell hx
theorem BytesAt.nil {w : World} {g o : Nat} {o' : Obj} {c : Array Value} {T : TypeId} {f : Nat × Nat} (h : w.heap[g]? = some o') (e : o' = .cells c T f) : BytesAt w g o [] := ⟨c, T, f, e ▸ h, fun _ _ hj => by simp at hj⟩

/-- cur' is cur with the bytes l laid from o on. -/
structure Wrote (cur cur' : Array Value) (o : Nat) (l : List UInt8) : Prop where
  size : cur'.size = cur.size
  inn : ∀ (j : Nat) x, l[j]? = some x → cur'[o + j]? = some (.int .u8 x.toNat)
  out : ∀ (j : Nat), (j < o ∨ o + l.length ≤ j) → cur'[j]? = cur[j]?

theorem Wrote.mk' (cur : Array Value) (o : Nat) (l : List UInt8) (h : o + l.length ≤ cur.size) :
    Wrote cur (cur.toList.take o ++ Lib.byteCells l ++ cur.toList.drop (o + l.length)).toArray o l := by
  have h1 : (cur.toList.take o).length = o := by rw [List.length_take, Array.length_toList]; omega
  refine ⟨?_, ?_, ?_⟩
  · simp [Lib.byteCells]; omega
  · intro j x hj
    have hjl : j < l.length := (List.getElem?_eq_some_iff.1 hj).1
    rw [List.getElem?_toArray, List.append_assoc, List.getElem?_append_right (by omega), h1, List.getElem?_append_left (by rw [Lib.byteCells_length]; omega)]
    simp [Lib.byteCells, hj]
  · intro j hj
    rw [List.getElem?_toArray]
    rcases hj with hj | hj
    · rw [List.append_assoc, List.getElem?_append_left (by omega), List.getElem?_take_of_lt hj]; simp
    · rw [List.getElem?_append_right (by simp [Lib.byteCells]; omega), List.getElem?_drop]
      simp only [List.length_append, h1, Lib.byteCells_length]
      rw [show o + l.length + (j - (o + l.length)) = j by omega]; simp

/-- From here on the world is a letter of which R is known. -/
theorem cutW {P : Program} {c : Code} {Q : Exit → Act → World → Prop} {a : Act} {w : World} (R : World → Prop) (hR : R w) (h : ∀ W, R W → c.wp P Q a W) : c.wp P Q a w := h w hR

/-- The same at a call. -/
theorem cutC {P : Program} {f : FuncId} {args : Array Value} {Q : Ending → World → Prop} {w : World} (R : World → Prop) (hR : R w) (h : ∀ W, R W → Calls P f args W Q) : Calls P f args w Q := h w hR

end Go.Proofs.YtocjfcgailkfjaaGreatDoor
end

section
namespace Go.Proofs.YtocjfcgailkfjaaGreatDoor
open Go.RowKit

/-- The same in the midst of a region. -/
theorem cutL {P : Program} {ops l : _} {Q : Exit → Act → World → Prop} {a : Act} {w : World} (R : World → Prop) (hR : R w) (h : ∀ W, R W → wpList P ops Q l a W) : wpList P ops Q l a w := h w hR

end Go.Proofs.YtocjfcgailkfjaaGreatDoor
end
