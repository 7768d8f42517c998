/- Rows of elements of k cells, and append of elements onto them. Descriptions of packets may change; nothing else of what there was does. Reading a packet that was read: its children, its text, its number, its truth, its bytes. -/
import Derived.Test.YtocjfcgailkfjaaGreatDoorMA
import Derived.Test.YtocjfcgailkfjaaGreatDoorProg
import Derived.Lib.AppendZeros
import Derived.Test.YtocjfcgailkfjaaGreatDoorME1

set_option linter.unusedVariables false
set_option linter.unusedSimpArgs false
set_option linter.unusedSectionVars false

section
namespace Go.Proofs.YtocjfcgailkfjaaGreatDoor
open Go.RowKit

/-- A row of elements of k cells of type E. -/
def Row (E k : Nat) (w : World) (S : Nat → Prop) (sl : Value) (vs : List (List Value)) : Prop :=
  (sl = .slice none 0 0 ∧ vs = []) ∨ ∃ g cap cur, sl = .slice (some ⟨g, 0, none⟩) vs.length cap ∧ S g ∧ w.heap[g]? = some (.cells cur E (0, 0)) ∧ vs.length ≤ cap ∧ cap ≤ maxLen ∧ cur.size = cap * k ∧
    (∀ v ∈ vs, v.length = k) ∧ cur.toList.take (vs.length * k) = vs.flatten

theorem Row.frame {E k : Nat} {w w' : World} {S S' : Nat → Prop} {sl : Value} {vs : List (List Value)} (h : Row E k w S sl vs) (hf : ∀ b, S b → b < w.heap.size → w'.heap[b]? = w.heap[b]? ∧ S' b) : Row E k w' S' sl vs := by
  rcases h with h | ⟨g, cap, cur, h1, h2, h3, h4⟩
  · exact .inl h
  · obtain ⟨e, hS⟩ := hf g h2 (lt_of_block h3)
    exact .inr ⟨g, cap, cur, h1, hS, e.trans h3, h4⟩
theorem Row.ext {E k : Nat} {w w' : World} {S : Nat → Prop} {sl : Value} {vs : List (List Value)} (h : Row E k w S sl vs) (e : Ext none_ w w') : Row E k w' S sl vs := h.frame fun x hx hx2 => ⟨e.block x hx2 (fun h => h), hx⟩
theorem Row.own {E k : Nat} {w : World} {S : Nat → Prop} {sl : Value} {vs : List (List Value)} (h : Row E k w S sl vs) : ∀ b, sl.ownBlock = some b → S b ∧ b < w.heap.size := by
  intro b hb
  rcases h with ⟨rfl, _⟩ | ⟨g, cap, cur, rfl, hS, hg, _⟩
  · simp [Value.ownBlock] at hb
  · simp [Value.ownBlock] at hb; subst hb; exact ⟨hS, lt_of_block hg⟩

theorem flat_get {k : Nat} : ∀ (vs : List (List Value)) (j i : Nat) (v : List Value) (x : Value), (∀ v ∈ vs, v.length = k) → vs[j]? = some v → v[i]? = some x → vs.flatten[j * k + i]? = some x
  | [], j, i, v, x, _, hj, _ => by simp at hj
  | u :: vs, 0, i, v, x, h, hj, hi => by
    obtain rfl : u = v := by simpa using hj
    have hu := (List.getElem?_eq_some_iff.1 hi).1
    simp only [List.flatten_cons, Nat.zero_mul, Nat.zero_add]
    rw [List.getElem?_append_left hu]; exact hi
  | u :: vs, j + 1, i, v, x, h, hj, hi => by
    have hu := h u (List.mem_cons_self)
    have := flat_get vs j i v x (fun v hv => h v (List.mem_cons_of_mem _ hv)) (by simpa using hj) hi
    simp only [List.flatten_cons]
    rw [List.getElem?_append_right (by rw [hu, Nat.succ_mul]; omega), hu, show (j + 1) * k + i - k = j * k + i by rw [Nat.succ_mul]; omega]
    exact this
theorem flat_length {k : Nat} : ∀ (vs : List (List Value)), (∀ v ∈ vs, v.length = k) → vs.flatten.length = vs.length * k
  | [], _ => by simp
  | u :: vs, h => by
    have hu := h u (List.mem_cons_self)
    have := flat_length vs (fun v hv => h v (List.mem_cons_of_mem _ hv))
    simp only [List.flatten_cons, List.length_append, List.length_cons, hu, this, Nat.succ_mul]; omega

/-- A cell of a row. -/
theorem Row.at {E k : Nat} {w : World} {S : Nat → Prop} {a : Option Addr} {n c : Nat} {vs : List (List Value)} (h : Row E k w S (.slice a n c) vs) : vs.length = n ∧ n ≤ c ∧ c ≤ maxLen ∧ (vs = [] ∨ ∃ g, a = some ⟨g, 0, none⟩ ∧ g < w.heap.size ∧ S g ∧ ∀ (j i : Nat) v x, vs[j]? = some v → v[i]? = some x → w.cell? ⟨g, j * k + i, none⟩ = some x) := by
  rcases h with ⟨h, rfl⟩ | ⟨g, cap, cur, h1, h2, h3, h4, h5, h6, h7, h8⟩
  · cases h; exact ⟨rfl, Nat.le_refl _, by unfold maxLen; omega, .inl rfl⟩
  · cases h1
    refine ⟨rfl, h4, h5, .inr ⟨g, rfl, lt_of_block h3, h2, fun j i v x hj hi => ?_⟩⟩
    rw [Lib.cell_of_heap h3]
    have e := flat_get vs j i v x h7 hj hi
    rw [← h8, List.getElem?_take] at e
    split at e
    · simpa using e
    · cases e

theorem Row.mk {E k : Nat} {w : World} {S : Nat → Prop} {g cap : Nat} {vs : List (List Value)} {cur : Array Value} (hg : w.heap[g]? = some (.cells cur E (0, 0))) (hS : S g) (hl : vs.length ≤ cap) (hc : cap ≤ maxLen) (hs : cur.size = cap * k) (hk : ∀ v ∈ vs, v.length = k) (h : cur.toList.take (vs.length * k) = vs.flatten) : Row E k w S (.slice (some ⟨g, 0, none⟩) vs.length cap) vs :=
  .inr ⟨g, cap, cur, rfl, hS, hg, hl, hc, hs, hk, h⟩

/-- append of one element. -/
theorem append_row (E ST k by_ : Nat) (z : Value) (hu : Tryz.prog.underlying ST = some (.slice E)) (hinf : (Tryz.prog.info? E).map (fun i => (i.zero, i.size, i.bytes)) = some (some z, k, by_)) (hzk : z.cells.size = k) (hk : 0 < k) (hby : by_ ≤ 1000)
    (W : World) (S : Nat → Prop) (sl : Value) (vs : List (List Value)) (sg : Nat) (v : List Value) (hv : v.length = k) (h : Row E k W S sl vs) (hs : W.heap[sg]? = some (.cells v.toArray E (0, 0))) (h1 : ∀ u ∈ v, u.oneCell' = true) (hl : vs.length ≤ 100000) :
    ∃ sa sn sc W', (Builtin.append_ #[ST, ST] ST #[sl, .slice (some ⟨sg, 0, none⟩) 1 1]).run Tryz.prog W = .ok (.slice sa sn sc) W' ∧ Row E k W' (fun x => sl.ownBlock = some x ∨ W.heap.size ≤ x) (.slice sa sn sc) (vs ++ [v]) ∧ Ext (fun x => sl.ownBlock = some x) W W' := by
  obtain ⟨i, hi, hz, hsz, hb⟩ := info_parts hinf
  have hnews : ∀ j u, v[j]? = some u → W.cell? ((⟨sg, 0, none⟩ : Addr).add j) = some u := by
    intro j u hj
    rw [Lib.addr_add, Lib.cell_of_heap hs, Nat.zero_add]
    simpa using hj
  have hvk : ∀ (vs : List (List Value)), (∀ v ∈ vs, v.length = k) → ∀ u ∈ vs ++ [v], u.length = k := fun vs h u hu => by
    rcases List.mem_append.1 hu with hu | hu
    · exact h u hu
    · simp at hu; rw [hu]; exact hv
  have hsk : (1 : Nat) * i.size = k := by rw [hsz]; omega
  rcases h with ⟨rfl, rfl⟩ | ⟨g, cap, cur, rfl, hSg, hg, hlc, hcm, hcs, hkk, hfl⟩
  · have hr := run_append_nil (P := Tryz.prog) W ST ST E i z hu hi hz ⟨sg, 0, none⟩ 1 1 v (by rw [hsk]; exact hv) hnews (by omega) (by omega) (by rw [hb]; omega)
    have hge := grownCap_ge W 1 0 E
    refine ⟨_, _, _, _, hr, .inr ⟨W.heap.size, _, _, rfl, .inr (Nat.le_refl _), heap_new W.drew _, hge, grownCap_le_maxLen W _ _ _ (by unfold maxLen; omega), ?_, hvk [] (fun v h => by simp at h), ?_⟩, ((Ext.refl _ W).drew).alloc _⟩
    · rw [Array.size_append, size_zeroCells, hzk, List.size_toArray, hv]
      obtain ⟨m, hm⟩ : ∃ m, grownCap W 1 0 E = m + 1 := ⟨grownCap W 1 0 E - 1, by omega⟩
      rw [hm, Nat.add_sub_cancel, Nat.succ_mul]; omega
    · simp only [List.nil_append, List.length_cons, List.length_nil, Nat.zero_add, Nat.one_mul, Array.toList_append, List.flatten_cons, List.flatten_nil, List.append_nil]
      rw [← hv]
      exact List.take_left' rfl
  · have hcl : cur.toList.length = cap * k := by rw [Array.length_toList (xs := cur)]; exact hcs
    have hvl : vs.length * k ≤ cap * k := Nat.mul_le_mul_right _ hlc
    by_cases hroom : vs.length + 1 ≤ cap
    · have hvl1 : (vs.length + 1) * k ≤ cap * k := Nat.mul_le_mul_right _ hroom
      rw [Nat.succ_mul] at hvl1
      have hr := run_append_room (P := Tryz.prog) W ST ST E i hu hi g vs.length cap cur hg ⟨sg, 0, none⟩ 1 1 v (by rw [hsk]; exact hv) hnews h1 hroom (by rw [hsz, hv, hcs]; omega)
      refine ⟨_, _, _, _, hr, .inr ⟨g, cap, _, by simp, .inl rfl, setRow_heap _ _ _ _ _ _ hg, by simpa using hroom, hcm, ?_, hvk vs hkk, ?_⟩, (Ext.refl (fun x => some g = some x) W).setRow (g := g) (fun _ => rfl) _⟩
      · rw [hsz, hv, List.size_toArray, List.length_append, List.length_append, List.length_take, List.length_drop, hcl, hv]; omega
      · rw [hsz, hfl, List.length_append, List.length_singleton, Nat.succ_mul, List.flatten_append, List.flatten_cons, List.flatten_nil, List.append_nil]
        show List.take _ (vs.flatten ++ v ++ _) = _
        rw [List.take_append_of_le_length (by rw [List.length_append, flat_length vs hkk, hv]; omega), List.take_of_length_le (by rw [List.length_append, flat_length vs hkk, hv]; omega)]
    · have hcap : cap = vs.length := by omega
      have holds : ∀ j u, (cur.toList.take (vs.length * k))[j]? = some u → W.cell? ((⟨g, 0, none⟩ : Addr).add j) = some u := by
        intro j u hj
        rw [Lib.addr_add, Lib.cell_of_heap hg, Nat.zero_add]
        rw [List.getElem?_take] at hj
        split at hj
        · rw [← Array.getElem?_toList]; exact hj
        · cases hj
      have hgf : Builtin.nextslicecap (vs.length + 1) cap * by_ ≤ 281474976710656 := growslice_fits (by omega) (by
        have : (vs.length + 1) * by_ ≤ 100001 * 1000 := Nat.mul_le_mul (by omega) hby
        omega)
      have hr := run_append_grow (P := Tryz.prog) W ST ST E i z hu hi hz ⟨g, 0, none⟩ vs.length cap (cur.toList.take (vs.length * k)) (by rw [hsz, List.length_take, hcl]; omega) holds ⟨sg, 0, none⟩ 1 1 v (by rw [hsk]; exact hv) hnews (by omega) (by omega) (by rw [hb]; exact hgf)
      have hge := grownCap_ge W (vs.length + 1) cap E
      refine ⟨_, _, _, _, hr, .inr ⟨W.heap.size, _, _, by rw [List.length_append]; rfl, .inr (Nat.le_refl _), heap_new W.drew _, by rw [List.length_append]; exact hge, grownCap_le_maxLen W _ _ _ (by unfold maxLen; omega), ?_, hvk vs hkk, ?_⟩, ((Ext.refl _ W).drew).alloc _⟩
      · rw [Array.size_append, Array.size_append, size_zeroCells, List.size_toArray, List.size_toArray, List.length_take, hcl, hzk, hv]
        obtain ⟨m, hm⟩ : ∃ m, grownCap W (vs.length + 1) cap E = m + (vs.length + 1) := ⟨grownCap W (vs.length + 1) cap E - (vs.length + 1), by omega⟩
        rw [hm, Nat.add_sub_cancel, Nat.add_mul, Nat.succ_mul]; omega
      · rw [hfl, List.length_append, List.length_singleton, Nat.succ_mul, List.flatten_append, List.flatten_cons, List.flatten_nil, List.append_nil]
        simp only [Array.toList_append]
        show List.take _ (vs.flatten ++ v ++ _) = _
        rw [List.take_append_of_le_length (by rw [List.length_append, flat_length vs hkk, hv]; omega), List.take_of_length_le (by rw [List.length_append, flat_length vs hkk, hv]; omega)]

end Go.Proofs.YtocjfcgailkfjaaGreatDoor
end

section
namespace Go.Proofs.YtocjfcgailkfjaaGreatDoor
open Go.RowKit

/-- w' is w with new blocks, and other descriptions in packets of S. -/
structure Desc (S : Nat → Prop) (w w' : World) : Prop where
  os : w'.os = w.os
  tape : w'.tape = w.tape
  output : w'.output = w.output
  size : w.heap.size ≤ w'.heap.size
  block : ∀ k, k < w.heap.size → w'.heap[k]? = w.heap[k]? ∨ (S k ∧ ∃ a b c d e f g s s', w.heap[k]? = some (.cells #[a, b, c, d, e, f, g, .string s] 220 (0, 0)) ∧ w'.heap[k]? = some (.cells #[a, b, c, d, e, f, g, .string s'] 220 (0, 0)))

theorem Desc.refl (S : Nat → Prop) (w : World) : Desc S w w := ⟨rfl, rfl, rfl, Nat.le_refl _, fun _ _ => .inl rfl⟩
theorem Desc.trans {S : Nat → Prop} {a b c : World} (h : Desc S a b) (k : Desc S b c) : Desc S a c := by
  refine ⟨k.os.trans h.os, k.tape.trans h.tape, k.output.trans h.output, Nat.le_trans h.size k.size, fun i hi => ?_⟩
  rcases h.block i hi with e1 | ⟨hS, a1, b1, c1, d1, e1, f1, g1, s1, s1', x1, x2⟩
  · rcases k.block i (Nat.lt_of_lt_of_le hi h.size) with e2 | ⟨hS, a1, b1, c1, d1, e1', f1, g1, s1, s1', x1, x2⟩
    · exact .inl (e2.trans e1)
    · exact .inr ⟨hS, a1, b1, c1, d1, e1', f1, g1, s1, s1', e1 ▸ x1, x2⟩
  · rcases k.block i (Nat.lt_of_lt_of_le hi h.size) with e2 | ⟨hS, a2, b2, c2, d2, e2, f2, g2, s2, s2', y1, y2⟩
    · exact .inr ⟨hS, a1, b1, c1, d1, e1, f1, g1, s1, s1', x1, e2.trans x2⟩
    · rw [x2] at y1
      simp only [Option.some.injEq, Obj.cells.injEq, Array.mk.injEq, List.cons.injEq, and_true, true_and, Value.string.injEq] at y1
      obtain ⟨rfl, rfl, rfl, rfl, rfl, rfl, rfl, rfl⟩ := y1
      exact .inr ⟨hS, _, _, _, _, _, _, _, _, _, x1, y2⟩
theorem Desc.mono {S S' : Nat → Prop} {a b : World} (h : Desc S a b) (hs : ∀ i, S i → S' i) : Desc S' a b :=
  ⟨h.os, h.tape, h.output, h.size, fun k hk => (h.block k hk).imp id fun ⟨x, y⟩ => ⟨hs k x, y⟩⟩
theorem Desc.of {S : Nat → Prop} {a b : World} (h : Ext none_ a b) : Desc S a b := ⟨h.os, h.tape, h.output, h.size, fun k hk => .inl (h.block k hk (fun h => h))⟩
theorem Desc.ext {S : Nat → Prop} {a b : World} (h : Desc S a b) : Ext S a b :=
  ⟨h.os, h.tape, h.output, h.size, fun k hk hs => (h.block k hk).elim id fun ⟨x, _⟩ => absurd x hs⟩
/-- A description is stored. -/
theorem Desc.store {S : Nat → Prop} {w : World} {p cc bt tag d : Nat} {val bv ch : Value} {ds : ByteArray} (h : PkBlk w p cc bt tag val bv d ch ds) (hS : S p) (s : ByteArray) : Desc S w (w.setCell ⟨p, 7, none⟩ (.string s)) := by
  refine ⟨rfl, rfl, rfl, by simp, fun k hk => ?_⟩
  by_cases e : k = p
  · subst e
    exact .inr ⟨hS, _, _, _, _, _, _, _, _, _, h, heap_set h _⟩
  · exact .inl (Below.heap_setCell _ _ _ _ e)
/-- Behind new blocks. -/
theorem Desc.step {S : Nat → Prop} {a b c : World} (h : Desc S a b) (k : Ext (fun i => a.heap.size ≤ i) b c) : Desc S a c :=
  ⟨k.os.trans h.os, k.tape.trans h.tape, k.output.trans h.output, Nat.le_trans h.size k.size, fun i hi => by
    rw [k.block i (Nat.lt_of_lt_of_le hi h.size) (Nat.not_le.2 hi)]; exact h.block i hi⟩

theorem PkBlk.desc {S : Nat → Prop} {w w' : World} {p cc bt tag d : Nat} {val bv ch : Value} {ds : ByteArray} (h : PkBlk w p cc bt tag val bv d ch ds) (D : Desc S w w') : ∃ ds', PkBlk w' p cc bt tag val bv d ch ds' := by
  unfold PkBlk at h ⊢
  rcases D.block p (lt_of_block h) with e | ⟨_, a, b, c, d, e, f, g, s, s', h1, h2⟩
  · exact ⟨_, e.trans h⟩
  · rw [h] at h1
    simp only [Option.some.injEq, Obj.cells.injEq, Array.mk.injEq, List.cons.injEq, and_true, Value.string.injEq] at h1
    obtain ⟨rfl, rfl, rfl, rfl, rfl, rfl, rfl, rfl⟩ := h1
    exact ⟨_, h2⟩
/-- A block that is no packet's. -/
theorem Desc.get {S : Nat → Prop} {w w' : World} (D : Desc S w w') {b : Nat} {cs : Array Value} {T : TypeId} {f : Nat × Nat} (h : w.heap[b]? = some (.cells cs T f)) (hT : T ≠ 220) : w'.heap[b]? = some (.cells cs T f) := by
  rcases D.block b (lt_of_block h) with e | ⟨_, _, _, _, _, _, _, _, _, _, h1, h2⟩
  · exact e.trans h
  · rw [h] at h1
    simp only [Option.some.injEq, Obj.cells.injEq] at h1
    exact absurd h1.2.1 hT
theorem PkOwn.desc {S S' : Nat → Prop} {w w' : World} {p cc bt tag : Nat} {val : Value} {bs : List UInt8} {ps : List Nat} (h : PkOwn w S p cc bt tag val bs ps) (D : Desc S' w w') : PkOwn w' S p cc bt tag val bs ps := by
  obtain ⟨d, row, bv, g, ch, ds, hp, ⟨lr, hd⟩, ⟨cap, cur, e1, hg, hr⟩, hrest⟩ := h
  obtain ⟨ds', hp'⟩ := hp.desc D
  refine ⟨d, row, bv, g, ch, ds', hp', ⟨lr, ?_⟩, ⟨cap, cur, e1, D.get hg (by decide), hr⟩, hrest⟩
  rcases hd with ⟨a1, a2, a3⟩ | ⟨g', cap', cur', a1, a2, a3, a4, a5⟩
  · exact .inl ⟨a1, a2, D.get a3 (by decide)⟩
  · exact .inr ⟨g', cap', cur', a1, a2, D.get a3 (by decide), D.get a4 (by decide), a5⟩
mutual
theorem PkAt.desc {V : Nat → Nat → List UInt8 → Value → Prop} {w w' : World} {S S' : Nat → Prop} (D : Desc S' w w') : ∀ (t : T) (p : Nat), PkAt V w S t p → PkAt V w' S t p
  | .prim cls tag data, p, h => by
    unfold PkAt at h ⊢
    obtain ⟨val, h1, h2⟩ := h
    exact ⟨val, h1.desc D, h2⟩
  | .cons cls tag kids, p, h => by
    unfold PkAt at h ⊢
    obtain ⟨ps, h1, h2⟩ := h
    exact ⟨ps, h1.desc D, PkAtL.desc D kids ps h2⟩
theorem PkAtL.desc {V : Nat → Nat → List UInt8 → Value → Prop} {w w' : World} {S S' : Nat → Prop} (D : Desc S' w w') : ∀ (ts : List T) (ps : List Nat), PkAtL V w S ts ps → PkAtL V w' S ts ps
  | [], [], _ => by unfold PkAtL; trivial
  | t :: ts, p :: ps, h => by
    unfold PkAtL at h ⊢
    exact ⟨PkAt.desc D t p h.1, PkAtL.desc D ts ps h.2⟩
  | [], _ :: _, h => by unfold PkAtL at h; exact h.elim
  | _ :: _, [], h => by unfold PkAtL at h; exact h.elim
end
theorem PkAtL.get {V : Nat → Nat → List UInt8 → Value → Prop} {w : World} {S : Nat → Prop} : ∀ (ts : List T) (ps : List Nat) (j : Nat) (t : T), PkAtL V w S ts ps → ts[j]? = some t → ∃ p, ps[j]? = some p ∧ PkAt V w S t p
  | t :: ts, p :: ps, 0, x, h, hj => by
    unfold PkAtL at h
    obtain rfl : t = x := by simpa using hj
    exact ⟨p, rfl, h.1⟩
  | t :: ts, p :: ps, j + 1, x, h, hj => by
    unfold PkAtL at h
    exact PkAtL.get ts ps j x h.2 (by simpa using hj)
  | [], _, _, _, _, hj => by simp at hj
  | _ :: _, [], _, _, h, _ => by unfold PkAtL at h; exact h.elim

end Go.Proofs.YtocjfcgailkfjaaGreatDoor
end

section
namespace Go.Proofs.YtocjfcgailkfjaaGreatDoor
open Go.RowKit

theorem PkOwn.ext {S : Nat → Prop} {w w' : World} {p cc bt tag : Nat} {val : Value} {bs : List UInt8} {ps : List Nat} (h : PkOwn w S p cc bt tag val bs ps) (E : Ext none_ w w') : PkOwn w' S p cc bt tag val bs ps :=
  h.frame fun b hb hl => ⟨E.block b hl (fun h => h), hb⟩

set_option maxHeartbeats 400000 in
set_option maxRecDepth 100000 in
theorem packetChild_any (w : World) (S : Nat → Prop) (p cc bt tag : Nat) (val : Value) (bs : List UInt8) (ps : List Nat) (i q : Nat) (z : Int) (hz : z = i) (h : PkOwn w S p cc bt tag val bs ps) (hq : ps[i]? = some q) :
    Calls Tryz.prog 88 #[.pointer (some ⟨p, 0, none⟩), .int .i64 z] w fun e w' => e = .returned (.tuple #[.pointer (some ⟨q, 0, none⟩), .nilIface]) ∧ w = w' := by
  subst hz
  obtain ⟨d, row, bv, g, ch, ds, hp, hd, ⟨cap, cur, rfl, hg, hcs, hlc, hcm, hch⟩, -⟩ := h
  have hcur := hch i q hq
  have hi : i < ps.length := (List.getElem?_eq_some_iff.1 hq).1
  have c0 := Lib.cell_of_heap hp
  have c1 := Lib.cell_of_heap hg
  unfold maxLen at hcm
  obtain ⟨n, hn⟩ : ∃ n, ps.length = n := ⟨_, rfl⟩
  rw [hn] at c0 hi hlc
  clear hp hg hd hch hq hcs hn
  have hi' : (i : Int) < (n : Int) := by omega
  go_enter Tryz.func88, Tryz.ntmps88
  go_wp2_with fail
  go_ret2
  exact ⟨rfl, rfl⟩

set_option maxHeartbeats 400000 in
set_option maxRecDepth 100000 in
theorem packetChildIf_yes (w : World) (S : Nat → Prop) (p cc bt tag : Nat) (val : Value) (bs : List UInt8) (ps : List Nat) (i q : Nat) (z : Int) (hz : z = i) (h : PkOwn w S p cc bt tag val bs ps) (hq : ps[i]? = some q) :
    Calls Tryz.prog 114 #[.pointer (some ⟨p, 0, none⟩), .int .i64 z] w fun e w' => e = .returned (.tuple #[.pointer (some ⟨q, 0, none⟩), .bool true, .nilIface]) ∧ w = w' := by
  subst hz
  obtain ⟨d, row, bv, g, ch, ds, hp, hd, ⟨cap, cur, rfl, hg, hcs, hlc, hcm, hch⟩, -⟩ := h
  have hcur := hch i q hq
  have hi : i < ps.length := (List.getElem?_eq_some_iff.1 hq).1
  have c0 := Lib.cell_of_heap hp
  have c1 := Lib.cell_of_heap hg
  unfold maxLen at hcm
  obtain ⟨n, hn⟩ : ∃ n, ps.length = n := ⟨_, rfl⟩
  rw [hn] at c0 hi hlc
  clear hp hg hd hch hq hcs hn
  have hi' : (i : Int) < (n : Int) := by omega
  go_enter Tryz.func114, Tryz.ntmps114
  go_wp2_with fail
  go_ret3
  exact ⟨rfl, rfl⟩

set_option maxHeartbeats 400000 in
set_option maxRecDepth 100000 in
theorem packetChildIf_no (w : World) (S : Nat → Prop) (p cc bt tag : Nat) (val : Value) (bs : List UInt8) (ps : List Nat) (i : Nat) (z : Int) (hz : z = i) (h : PkOwn w S p cc bt tag val bs ps) (hq : ps.length ≤ i) (hi : i ≤ 1000) :
    Calls Tryz.prog 114 #[.pointer (some ⟨p, 0, none⟩), .int .i64 z] w fun e w' => e = .returned (.tuple #[.pointer none, .bool false, .nilIface]) ∧ w = w' := by
  subst hz
  obtain ⟨d, row, bv, g, ch, ds, hp, hd, ⟨cap, cur, rfl, hg, hcs, hlc, hcm, hch⟩, -⟩ := h
  have c0 := Lib.cell_of_heap hp
  unfold maxLen at hcm
  obtain ⟨n, hn⟩ : ∃ n, ps.length = n := ⟨_, rfl⟩
  rw [hn] at c0 hq hlc
  clear hp hg hd hch hcs hn
  have hi' : (n : Int) ≤ (i : Int) := by omega
  go_enter Tryz.func114, Tryz.ntmps114
  go_wp2_with fail
  go_ret3
  exact ⟨rfl, rfl⟩

theorem assert_string (v : Value) (w : World) : (Instr.typeAssert (.iface 9 v) 20 9 true).run Tryz.prog w = .ok (.tuple #[v, .bool true]) w := by kernel_rfl
theorem assert_bool (v : Value) (w : World) : (Instr.typeAssert (.iface 4 v) 20 4 true).run Tryz.prog w = .ok (.tuple #[v, .bool true]) w := by kernel_rfl
theorem assert_int (v : Value) (w : World) : (Instr.typeAssert (.iface 2 v) 20 2 true).run Tryz.prog w = .ok (.tuple #[v, .bool true]) w := by kernel_rfl

set_option maxHeartbeats 400000 in
set_option maxRecDepth 100000 in
theorem packetString_any (w : World) (S : Nat → Prop) (p cc bt tag : Nat) (s : ByteArray) (bs : List UInt8) (ps : List Nat) (h : PkOwn w S p cc bt tag (.iface 9 (.string s)) bs ps) :
    Calls Tryz.prog 89 #[.pointer (some ⟨p, 0, none⟩)] w fun e w' => e = .returned (.tuple #[.string s, .nilIface]) ∧ w = w' := by
  obtain ⟨d, row, bv, g, ch, ds, hp, -⟩ := h
  have c0 := Lib.cell_of_heap hp
  clear hp
  have ta := assert_string
  go_enter Tryz.func89, Tryz.ntmps89
  go_wp2_with fail
  go_ret2
  exact ⟨rfl, rfl⟩

set_option maxHeartbeats 400000 in
set_option maxRecDepth 100000 in
theorem packetBool_any (w : World) (S : Nat → Prop) (p cc bt tag : Nat) (b : Bool) (bs : List UInt8) (ps : List Nat) (h : PkOwn w S p cc bt tag (.iface 4 (.bool b)) bs ps) :
    Calls Tryz.prog 93 #[.pointer (some ⟨p, 0, none⟩)] w fun e w' => e = .returned (.tuple #[.bool b, .nilIface]) ∧ w = w' := by
  obtain ⟨d, row, bv, g, ch, ds, hp, -⟩ := h
  have c0 := Lib.cell_of_heap hp
  clear hp
  have ta := assert_bool
  go_enter Tryz.func93, Tryz.ntmps93
  go_wp2_with fail
  go_ret2
  exact ⟨rfl, rfl⟩

set_option maxHeartbeats 400000 in
set_option maxRecDepth 100000 in
theorem packetInt64_any (w : World) (S : Nat → Prop) (p cc bt tag : Nat) (z : Int) (bs : List UInt8) (ps : List Nat) (h : PkOwn w S p cc bt tag (.iface 2 (.int .i64 z)) bs ps) :
    Calls Tryz.prog 98 #[.pointer (some ⟨p, 0, none⟩)] w fun e w' => e = .returned (.tuple #[.int .i64 z, .nilIface]) ∧ w = w' := by
  obtain ⟨d, row, bv, g, ch, ds, hp, -⟩ := h
  have c0 := Lib.cell_of_heap hp
  clear hp
  have ta := assert_int
  go_enter Tryz.func98, Tryz.ntmps98
  go_wp2_with fail
  go_ret2
  exact ⟨rfl, rfl⟩

set_option maxHeartbeats 400000 in
set_option maxRecDepth 100000 in
theorem packetStringAt_any (w : World) (S : Nat → Prop) (p cc bt tag : Nat) (val : Value) (bs : List UInt8) (ps : List Nat) (i q : Nat) (z : Int) (hz : z = i) (h : PkOwn w S p cc bt tag val bs ps) (hq : ps[i]? = some q)
    (S' : Nat → Prop) (qcc qbt qtag : Nat) (s : ByteArray) (qbs : List UInt8) (qps : List Nat) (h2 : PkOwn w S' q qcc qbt qtag (.iface 9 (.string s)) qbs qps) :
    Calls Tryz.prog 113 #[.pointer (some ⟨p, 0, none⟩), .int .i64 z] w fun e w' => e = .returned (.tuple #[.string s, .nilIface]) ∧ w = w' := by
  have H1 := Lib.hid (packetChild_any w S p cc bt tag val bs ps i q z hz h hq)
  have H2 := Lib.hid (packetString_any w S' q qcc qbt qtag s qbs qps h2)
  clear hz h hq h2
  go_enter Tryz.func113, Tryz.ntmps113
  go_wp2_with fail
  refine H1.out.mono ?_
  rintro e w1 ⟨rfl, rfl⟩
  go_wp2_with fail
  refine H2.out.mono ?_
  rintro e w1 ⟨rfl, rfl⟩
  go_wp2_with fail
  go_ret2
  exact ⟨rfl, rfl⟩

set_option maxHeartbeats 400000 in
set_option maxRecDepth 100000 in
theorem packetData_any (w : World) (S : Nat → Prop) (p cc bt tag : Nat) (val : Value) (bs : List UInt8) (ps : List Nat) (h : PkOwn w S p cc bt tag val bs ps) :
    Calls Tryz.prog 94 #[.pointer (some ⟨p, 0, none⟩)] w fun e w' => ∃ v, e = .returned (.tuple #[v, .nilIface]) ∧ SrcAt w v bs S ∧ Same w w' := by
  obtain ⟨d, row, bv, g, ch, ds, hp, hd, -, -, -, -, -, hS, -⟩ := h
  have c0 := Lib.cell_of_heap hp
  have H1 := Lib.hid (bufBytes_any w d row bs hd)
  clear hp hd
  go_enter Tryz.func94, Tryz.ntmps94
  go_wp2_with fail
  refine H1.out.mono ?_
  rintro e w1 ⟨⟨v, rfl, a, c, rfl, hsrc⟩, hs⟩
  have HS := Lib.hid hsrc
  clear hsrc
  go_wp2_with fail
  go_ret2
  exact ⟨_, rfl, ⟨a, c, rfl, HS.out.imp id fun ⟨g, e1, e2, e3⟩ => ⟨g, e1, e2, hS g e3⟩⟩, hs⟩

set_option maxHeartbeats 400000 in
set_option maxRecDepth 100000 in
theorem packetChildCount_any (w : World) (S : Nat → Prop) (p cc bt tag : Nat) (val : Value) (bs : List UInt8) (ps : List Nat) (h : PkOwn w S p cc bt tag val bs ps) (n : Nat) (hn : ps.length = n) (mn mx : Int) (s : ByteArray) (h0 : 0 ≤ mn) (h1 : mn ≤ n) (h2 : mx = -1 ∨ (mn < mx ∧ (n : Int) ≤ mx)) (hn2 : n ≤ 100000) :
    Calls Tryz.prog 87 #[.pointer (some ⟨p, 0, none⟩), .int .i64 mn, .int .i64 mx, .string s] w fun e w' => ∃ g c, e = .returned (.tuple #[.slice (some ⟨g, 0, none⟩) n c, .nilIface]) ∧ w = w' := by
  obtain ⟨d, row, bv, g, ch, ds, hp, hd, ⟨cap, cur, rfl, hg, hcs, hlc, hcm, hch⟩, -⟩ := h
  have c0 := Lib.cell_of_heap hp
  rw [hn] at c0
  clear hp hd hch hg hcs hcm hlc hn
  rcases h2 with rfl | ⟨h2, h3⟩
  · go_enter Tryz.func87, Tryz.ntmps87
    go_wp2_with fail
    all_goals (go_ret2; exact ⟨_, _, rfl, rfl⟩)
  · have h4 : (mn == mx) = false := by simp; omega
    go_enter Tryz.func87, Tryz.ntmps87
    go_wp2_with fail
    all_goals (go_ret2; exact ⟨_, _, rfl, rfl⟩)

end Go.Proofs.YtocjfcgailkfjaaGreatDoor
end
