/- From the reading of the arguments to the memory facts of the walks. -/
import Derived.Test.YtocjfcgailkfjaaGreatDoorMI1
import Derived.Deep.Slices
import Derived.Lib.SmallJoins
import Derived.ProofKit

set_option linter.unusedVariables false
set_option linter.unusedSimpArgs false
set_option linter.unusedSectionVars false

section
namespace Go.Proofs.YtocjfcgailkfjaaGreatDoor
open Go.RowKit

theorem c9 : Tryz.prog.cellsOf 9 = 1 := by kernel_rfl
theorem c5 : Tryz.prog.cellsOf 5 = 1 := by kernel_rfl
theorem c4 : Tryz.prog.cellsOf 4 = 1 := by kernel_rfl
theorem c2 : Tryz.prog.cellsOf 2 = 1 := by kernel_rfl
theorem c46 : Tryz.prog.cellsOf 46 = 1 := by kernel_rfl
theorem c22 : Tryz.prog.cellsOf 22 = 1 := by kernel_rfl
theorem c48 : Tryz.prog.cellsOf 48 = 2 := by kernel_rfl
theorem c77 : Tryz.prog.cellsOf 77 = 4 := by kernel_rfl
theorem c24 : Tryz.prog.cellsOf 24 = 2 := by kernel_rfl
theorem c53 : Tryz.prog.cellsOf 53 = 4 := by kernel_rfl

theorem list2 {α : Type} : ∀ {l : List α}, l.length = 2 → ∃ a b, l = [a, b]
  | [a, b], _ => ⟨a, b, rfl⟩
theorem list4 {α : Type} : ∀ {l : List α}, l.length = 4 → ∃ a b c d, l = [a, b, c, d]
  | [a, b, c, d], _ => ⟨a, b, c, d, rfl⟩

section
variable {H : Type} {enc : TypeId × Value → H} {W : World} {fuel : Nat} {x : DataW H × List MemPlace} {v : Value}

/-- A slice that reads as data: its elements' cells. -/
theorem slice_of {T E k : Nat} (hu : Tryz.prog.underlying T = some (.slice E)) (hk : Tryz.prog.cellsOf E = k) (hk0 : 0 < k) (h : DataW.trod enc Tryz.prog W 0 (fun _ => true) true fuel T [v] = some x) :
    ∃ (a : Option Addr) (n c : Nat), v = .slice a n c ∧ n ≤ 9223372036854775807 ∧ (n = 0 ∨ ∃ g o, a = some ⟨g, o, none⟩ ∧ g < W.heap.size ∧ ∀ i, i < n → ∃ (es : List Value), es.length = k ∧ (∀ j, j < k → W.cell? ⟨g, o + (i * k + j), none⟩ = es[j]?) ∧ ∃ m y, DataW.trod enc Tryz.prog W 0 (fun _ => true) true m E es = some y) := by
  rcases DataW.trod_slice hu h with ⟨e, _⟩ | ⟨a, len, cap, elems, rest, n, _, e, _, _, hlc, hcm, hel, hi, _⟩
  · cases e
    exact ⟨none, 0, 0, rfl, by omega, .inl rfl⟩
  · cases e
    refine ⟨some a, len, cap, rfl, by unfold maxLen at hcm; omega, ?_⟩
    by_cases h0 : len = 0
    · exact .inl h0
    · right
      rw [hk] at hi
      have key : ∀ i, i < len → ∃ (es : List Value), es.length = k ∧ (∀ j, j < k → W.cell? ((a.add (i * k)).add j) = es[j]?) ∧ ∃ m y, DataW.trod enc Tryz.prog W 0 (fun _ => true) true m E es = some y := fun i hil => by
        have e1 := hi i hil
        rw [List.getElem?_eq_getElem (by omega)] at e1
        obtain ⟨es, he, ht⟩ := Option.bind_eq_some_iff.1 e1
        obtain ⟨_, hl, hc⟩ := World.cells?_some he
        exact ⟨es, hl, hc, _, _, ht⟩
      obtain ⟨es, hl, hc, _⟩ := key 0 (by omega)
      have hc0 := hc 0 hk0
      rw [List.getElem?_eq_getElem (by omega)] at hc0
      have hsp := World.cell?_spot hc0
      obtain ⟨g, o, spot⟩ := a
      have hs : spot = none := by simpa [Addr.add] using hsp
      subst hs
      refine ⟨g, o, rfl, by simpa [Addr.add] using World.block_lt_of_cell? _ _ hc0, fun i hil => ?_⟩
      obtain ⟨es, hl, hc, ht⟩ := key i hil
      refine ⟨es, hl, fun j hj => ?_, ht⟩
      rw [← hc j hj, Lib.addr_add, Lib.addr_add, Nat.add_assoc]

theorem strOf_self (s : ByteArray) : strOf s.data.toList = s := rfl

theorem strRow_of (h : DataW.trod enc Tryz.prog W 0 (fun _ => true) true fuel 46 [v] = some x) : ∃ (a : Option Addr) (n c : Nat) (l : List (List UInt8)), v = .slice a n c ∧ StrRow W a n l ∧ n ≤ 9223372036854775807 ∧ ∀ s ∈ l, s.length ≤ 9223372036854775807 := by
  obtain ⟨a, n, c, rfl, hn, h0⟩ := slice_of Tryz.underlying46 c9 (by omega) h
  rcases h0 with rfl | ⟨g, o, rfl, hg, hi⟩
  · exact ⟨a, 0, c, [], rfl, ⟨rfl, .inl rfl⟩, hn, fun s hs => by simp at hs⟩
  · have key : ∀ i, i < n → ∃ s : List UInt8, W.cell? ⟨g, o + i, none⟩ = some (.string (strOf s)) ∧ s.length ≤ 9223372036854775807 := fun i hil => by
      obtain ⟨es, hl, hc, m, y, ht⟩ := hi i hil
      obtain ⟨s, rfl, _, hs⟩ := DataW.trod_string Tryz.underlying9 ht
      have := hc 0 (by omega)
      rw [Nat.mul_one, Nat.add_zero] at this
      exact ⟨s.data.toList, this, by unfold maxLen at hs; rw [Lib.size_eq] at hs; omega⟩
    obtain ⟨f, hf⟩ := Deep.choose_lt key
    refine ⟨_, n, c, (List.range n).map f, rfl, ⟨by simp, .inr ⟨g, o, rfl, hg, fun j s hj => ?_⟩⟩, hn, fun s hs => ?_⟩
    · rw [List.getElem?_map, Option.map_eq_some_iff] at hj
      obtain ⟨i, hi2, rfl⟩ := hj
      obtain ⟨hlt, rfl⟩ := List.getElem?_eq_some_iff.1 hi2
      rw [List.length_range] at hlt
      rw [List.getElem_range]
      exact (hf j hlt).1
    · obtain ⟨i, hi2, rfl⟩ := List.mem_map.1 hs
      exact (hf i (List.mem_range.1 hi2)).2

theorem attrRow_of (h : DataW.trod enc Tryz.prog W 0 (fun _ => true) true fuel 22 [v] = some x) : ∃ (a : Option Addr) (n c : Nat) (l : List AT), v = .slice a n c ∧ AttrRow W a n l ∧ n ≤ 9223372036854775807 ∧ ∀ s ∈ l, s.1.length ≤ 9223372036854775807 ∧ s.2.length ≤ 9223372036854775807 ∧ ∀ v ∈ s.2, v.length ≤ 9223372036854775807 := by
  obtain ⟨a, n, c, rfl, hn, h0⟩ := slice_of Tryz.underlying22 c48 (by omega) h
  rcases h0 with rfl | ⟨g, o, rfl, hg, hi⟩
  · exact ⟨a, 0, c, [], rfl, ⟨rfl, .inl rfl⟩, hn, fun s hs => by simp at hs⟩
  · have key : ∀ i, i < n → ∃ s : AT, (∃ va vn vc, W.cell? ⟨g, o + i * 2, none⟩ = some (.string (strOf s.1)) ∧ W.cell? ⟨g, o + i * 2 + 1, none⟩ = some (.slice va vn vc) ∧ StrRow W va vn s.2) ∧ s.1.length ≤ 9223372036854775807 ∧ s.2.length ≤ 9223372036854775807 ∧ ∀ v ∈ s.2, v.length ≤ 9223372036854775807 := fun i hil => by
      obtain ⟨es, hl, hc, m, y, ht⟩ := hi i hil
      obtain ⟨xs, m2, _, _, _, hxl, hf⟩ := DataW.trod_struct Tryz.underlying48 ht
      obtain ⟨e0, e1, rfl⟩ := list2 hl
      have f0 : DataW.trod enc Tryz.prog W 0 (fun _ => true) true m2 9 (([e0, e1].drop 0).take (Tryz.prog.cellsOf 9)) = xs[0]? := hf 0 _ rfl
      rw [c9] at f0
      have f1 : DataW.trod enc Tryz.prog W 0 (fun _ => true) true m2 46 (([e0, e1].drop 1).take (Tryz.prog.cellsOf 46)) = xs[1]? := hf 1 _ rfl
      rw [c46] at f1
      rw [List.getElem?_eq_getElem (by rw [hxl]; decide)] at f0
      rw [List.getElem?_eq_getElem (by rw [hxl]; decide)] at f1
      obtain ⟨s, es0, _, hs⟩ := DataW.trod_string Tryz.underlying9 f0
      obtain ⟨va, vn, vc, l, rfl, hr, hvn, hvl⟩ := strRow_of f1
      cases es0
      have q0 := hc 0 (by omega)
      have q1 := hc 1 (by omega)
      exact ⟨(s.data.toList, l), ⟨va, vn, vc, q0, q1, hr⟩, by unfold maxLen at hs; rw [Lib.size_eq] at hs; omega, by rw [hr.1]; exact hvn, hvl⟩
    obtain ⟨f, hf⟩ := Deep.choose_lt key
    refine ⟨_, n, c, (List.range n).map f, rfl, ⟨by simp, .inr ⟨g, o, rfl, hg, fun j s hj => ?_⟩⟩, hn, fun s hs => ?_⟩
    · rw [List.getElem?_map, Option.map_eq_some_iff] at hj
      obtain ⟨i, hi2, rfl⟩ := hj
      obtain ⟨hlt, rfl⟩ := List.getElem?_eq_some_iff.1 hi2
      rw [List.length_range] at hlt
      rw [List.getElem_range]
      exact (hf j hlt).1
    · obtain ⟨i, hi2, rfl⟩ := List.mem_map.1 hs
      exact (hf i (List.mem_range.1 hi2)).2

theorem pcRow_of (h : DataW.trod enc Tryz.prog W 0 (fun _ => true) true fuel 25 [v] = some x) : ∃ (a : Option Addr) (n c : Nat) (l : List PCt), v = .slice a n c ∧ PCRow W a n l ∧ n ≤ 9223372036854775807 ∧ ∀ s ∈ l, s.2.2.2.length ≤ 9223372036854775807 := by
  obtain ⟨a, n, c, rfl, hn, h0⟩ := slice_of Tryz.underlying25 c77 (by omega) h
  rcases h0 with rfl | ⟨g, o, rfl, hg, hi⟩
  · exact ⟨a, 0, c, [], rfl, ⟨rfl, .inl rfl⟩, hn, fun s hs => by simp at hs⟩
  · have key : ∀ i, i < n → ∃ s : PCt, (s.1 < 256 ∧ W.cell? ⟨g, o + i * 4, none⟩ = some (.int .u8 (s.1 : Nat)) ∧ W.cell? ⟨g, o + i * 4 + 1, none⟩ = some (.bool s.2.1) ∧ W.cell? ⟨g, o + i * 4 + 2, none⟩ = some (.bool s.2.2.1) ∧ W.cell? ⟨g, o + i * 4 + 3, none⟩ = some (.string (strOf s.2.2.2))) ∧ s.2.2.2.length ≤ 9223372036854775807 := fun i hil => by
      obtain ⟨es, hl, hc, m, y, ht⟩ := hi i hil
      obtain ⟨xs, m2, _, _, _, hxl, hf⟩ := DataW.trod_struct Tryz.underlying77 ht
      obtain ⟨e0, e1, e2, e3, rfl⟩ := list4 hl
      have f0 : DataW.trod enc Tryz.prog W 0 (fun _ => true) true m2 5 (([e0, e1, e2, e3].drop 0).take (Tryz.prog.cellsOf 5)) = xs[0]? := hf 0 _ rfl
      rw [c5] at f0
      have f1 : DataW.trod enc Tryz.prog W 0 (fun _ => true) true m2 4 (([e0, e1, e2, e3].drop 1).take (Tryz.prog.cellsOf 4)) = xs[1]? := hf 1 _ rfl
      rw [c4] at f1
      have f2 : DataW.trod enc Tryz.prog W 0 (fun _ => true) true m2 4 (([e0, e1, e2, e3].drop 2).take (Tryz.prog.cellsOf 4)) = xs[2]? := hf 2 _ rfl
      rw [c4] at f2
      have f3 : DataW.trod enc Tryz.prog W 0 (fun _ => true) true m2 9 (([e0, e1, e2, e3].drop 3).take (Tryz.prog.cellsOf 9)) = xs[3]? := hf 3 _ rfl
      rw [c9] at f3
      rw [List.getElem?_eq_getElem (by rw [hxl]; decide)] at f0
      rw [List.getElem?_eq_getElem (by rw [hxl]; decide)] at f1
      rw [List.getElem?_eq_getElem (by rw [hxl]; decide)] at f2
      rw [List.getElem?_eq_getElem (by rw [hxl]; decide)] at f3
      obtain ⟨z, ez, _, hz⟩ := DataW.trod_int Tryz.underlying5 f0
      obtain ⟨b1, eb1, _⟩ := DataW.trod_bool Tryz.underlying4 f1
      obtain ⟨b2, eb2, _⟩ := DataW.trod_bool Tryz.underlying4 f2
      obtain ⟨s, es0, _, hs⟩ := DataW.trod_string Tryz.underlying9 f3
      cases ez; cases eb1; cases eb2; cases es0
      have hzb := bounds_u8 hz
      have q0 := hc 0 (by omega)
      have q1 := hc 1 (by omega)
      have q2 := hc 2 (by omega)
      have q3 := hc 3 (by omega)
      refine ⟨(z.toNat, b1, b2, s.data.toList), ⟨by show z.toNat < 256; omega, ?_, q1, q2, q3⟩, by unfold maxLen at hs; rw [Lib.size_eq] at hs; omega⟩
      rw [show ((z.toNat : Nat) : Int) = z by omega]
      exact q0
    obtain ⟨f, hf⟩ := Deep.choose_lt key
    refine ⟨_, n, c, (List.range n).map f, rfl, ⟨by simp, .inr ⟨g, o, rfl, hg, fun j s hj => ?_⟩⟩, hn, fun s hs => ?_⟩
    · rw [List.getElem?_map, Option.map_eq_some_iff] at hj
      obtain ⟨i, hi2, rfl⟩ := hj
      obtain ⟨hlt, rfl⟩ := List.getElem?_eq_some_iff.1 hi2
      rw [List.length_range] at hlt
      rw [List.getElem_range]
      exact (hf j hlt).1
    · obtain ⟨i, hi2, rfl⟩ := List.mem_map.1 hs
      exact (hf i (List.mem_range.1 hi2)).2

theorem bytes_of (h : DataW.trod enc Tryz.prog W 0 (fun _ => true) true fuel 26 [v] = some x) : ∃ (a : Option Addr) (n c : Nat) (l : List UInt8), v = .slice a n c ∧ l.length = n ∧ n ≤ 9223372036854775807 ∧ (l = [] ∨ ∃ g o, a = some ⟨g, o, none⟩ ∧ BytesAt W g o l) := by
  obtain ⟨a, n, c, rfl, hn, h0⟩ := slice_of Tryz.underlying26 c5 (by omega) h
  rcases h0 with rfl | ⟨g, o, rfl, hg, hi⟩
  · exact ⟨a, 0, c, [], rfl, rfl, hn, .inl rfl⟩
  · have key : ∀ i, i < n → ∃ z : UInt8, W.cell? ⟨g, o + i, none⟩ = some (.int .u8 (z.toNat : Nat)) := fun i hil => by
      obtain ⟨es, hl, hc, m, y, ht⟩ := hi i hil
      obtain ⟨z, rfl, _, hz⟩ := DataW.trod_int Tryz.underlying5 ht
      have hzb := bounds_u8 hz
      have := hc 0 (by omega)
      rw [Nat.mul_one, Nat.add_zero] at this
      refine ⟨UInt8.ofNat z.toNat, ?_⟩
      rw [UInt8.toNat_ofNat_of_lt' (show z.toNat < 256 by omega), show ((z.toNat : Nat) : Int) = z by omega]
      exact this
    obtain ⟨f, hf⟩ := Deep.choose_lt key
    refine ⟨_, n, c, (List.range n).map f, rfl, by simp, hn, ?_⟩
    by_cases h0 : n = 0
    · subst h0; exact .inl rfl
    · right
      refine ⟨g, o, rfl, ?_⟩
      obtain ⟨cs, T, fz, hb, hcs⟩ : ∃ cs T fz, W.heap[g]? = some (.cells cs T fz) ∧ ∀ j, W.cell? ⟨g, j, none⟩ = cs[j]? := by
        have h1 := hf 0 (by omega)
        have hgo := Array.getElem?_eq_getElem hg
        cases hob : W.heap[g] with
        | cells cs T fz =>
          rw [hob] at hgo
          exact ⟨cs, T, fz, hgo, fun j => by simp [World.cell?, hgo]⟩
        | _ =>
          rw [hob] at hgo
          simp [World.cell?, hgo] at h1
      refine ⟨cs, T, fz, hb, fun j z hj => ?_⟩
      rw [List.getElem?_map, Option.map_eq_some_iff] at hj
      obtain ⟨i, hi2, rfl⟩ := hj
      obtain ⟨hlt, rfl⟩ := List.getElem?_eq_some_iff.1 hi2
      rw [List.length_range] at hlt
      rw [List.getElem_range, ← hcs]
      exact hf j hlt
end

end Go.Proofs.YtocjfcgailkfjaaGreatDoor
end
