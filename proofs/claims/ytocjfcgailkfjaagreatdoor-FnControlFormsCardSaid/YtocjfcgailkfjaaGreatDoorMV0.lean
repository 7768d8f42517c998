/- A control of twelve cells as a parameter, and its rows. -/
import Derived.Test.YtocjfcgailkfjaaGreatDoorMR0
import Derived.Test.YtocjfcgailkfjaaGreatDoorMN1

set_option linter.unusedVariables false
set_option linter.unusedSimpArgs false
set_option linter.unusedSectionVars false

section
namespace Go.Proofs.YtocjfcgailkfjaaGreatDoor
open Go.RowKit

theorem c63 : Tryz.prog.cellsOf 63 = 1 := by kernel_rfl
theorem c116 : Tryz.prog.cellsOf 116 = 3 := by kernel_rfl
theorem c65 : Tryz.prog.cellsOf 65 = 12 := by kernel_rfl
theorem list3 {α : Type} : ∀ {l : List α}, l.length = 3 → ∃ a b c, l = [a, b, c]
  | [a, b, c], _ => ⟨a, b, c, rfl⟩
theorem list12 {α : Type} : ∀ {l : List α}, l.length = 12 → ∃ e0 e1 e2 e3 e4 e5 e6 e7 e8 e9 e10 e11, l = [e0, e1, e2, e3, e4, e5, e6, e7, e8, e9, e10, e11]
  | [e0, e1, e2, e3, e4, e5, e6, e7, e8, e9, e10, e11], _ => ⟨e0, e1, e2, e3, e4, e5, e6, e7, e8, e9, e10, e11, rfl⟩

section
variable {H : Type} {enc : TypeId × Value → H} {W : World} {fuel : Nat} {x : DataW H × List MemPlace} {v : Value}

theorem keyRow_of (h : DataW.trod enc Tryz.prog W 0 (fun _ => true) true fuel 63 [v] = some x) : ∃ (a : Option Addr) (n c : Nat) (l : List (Bool × List UInt8 × List UInt8)), v = .slice a n c ∧ KeyRow W a n l ∧ n ≤ 9223372036854775807 := by
  obtain ⟨a, n, c, rfl, hn, h0⟩ := slice_of Tryz.underlying63 c116 (by omega) h
  rcases h0 with rfl | ⟨g, o, rfl, hg, hi⟩
  · exact ⟨a, 0, c, [], rfl, ⟨rfl, .inl rfl⟩, hn⟩
  · have key : ∀ i, i < n → ∃ s : Bool × List UInt8 × List UInt8, W.cell? ⟨g, o + i * 3, none⟩ = some (.bool s.1) ∧ W.cell? ⟨g, o + i * 3 + 1, none⟩ = some (.string (strOf s.2.1)) ∧ W.cell? ⟨g, o + i * 3 + 2, none⟩ = some (.string (strOf s.2.2)) := fun i hil => by
      obtain ⟨es, hl, hc, m, y, ht⟩ := hi i hil
      obtain ⟨xs, m2, _, _, _, hxl, hf⟩ := DataW.trod_struct Tryz.underlying116 ht
      obtain ⟨e0, e1, e2, rfl⟩ := list3 hl
      have f0 : DataW.trod enc Tryz.prog W 0 (fun _ => true) true m2 4 (([e0, e1, e2].drop 0).take (Tryz.prog.cellsOf 4)) = xs[0]? := hf 0 _ rfl
      rw [c4] at f0
      have f1 : DataW.trod enc Tryz.prog W 0 (fun _ => true) true m2 9 (([e0, e1, e2].drop 1).take (Tryz.prog.cellsOf 9)) = xs[1]? := hf 1 _ rfl
      rw [c9] at f1
      have f2 : DataW.trod enc Tryz.prog W 0 (fun _ => true) true m2 9 (([e0, e1, e2].drop 2).take (Tryz.prog.cellsOf 9)) = xs[2]? := hf 2 _ rfl
      rw [c9] at f2
      rw [List.getElem?_eq_getElem (by rw [hxl]; decide)] at f0
      rw [List.getElem?_eq_getElem (by rw [hxl]; decide)] at f1
      rw [List.getElem?_eq_getElem (by rw [hxl]; decide)] at f2
      obtain ⟨b1, eb1, _⟩ := DataW.trod_bool Tryz.underlying4 f0
      obtain ⟨s, es0, _, _⟩ := DataW.trod_string Tryz.underlying9 f1
      obtain ⟨s2, es2, _, _⟩ := DataW.trod_string Tryz.underlying9 f2
      cases eb1; cases es0; cases es2
      exact ⟨(b1, s.data.toList, s2.data.toList), hc 0 (by omega), hc 1 (by omega), hc 2 (by omega)⟩
    obtain ⟨f, hf⟩ := Deep.choose_lt key
    refine ⟨_, n, c, (List.range n).map f, rfl, ⟨by simp, .inr ⟨g, o, rfl, hg, fun j s hj => ?_⟩⟩, hn⟩
    rw [List.getElem?_map, Option.map_eq_some_iff] at hj
    obtain ⟨i, hi2, rfl⟩ := hj
    obtain ⟨hlt, rfl⟩ := List.getElem?_eq_some_iff.1 hi2
    rw [List.length_range] at hlt
    rw [List.getElem_range]
    exact hf j hlt

theorem ctl_of (hsz : ∃ cs, v = .agg cs ∧ cs.size = Tryz.prog.cellsOf 65) (h : DataW.trod enc Tryz.prog W 0 (fun _ => true) true fuel 65 v.cells.toList = some x) :
    ∃ (k n1 n2 n3 : Int) (ty ck tx id : ByteArray) (cr fl : Bool) (ka ia : Option Addr) (kn kc inn ic : Nat) (lk : List (Bool × List UInt8 × List UInt8)) (li : List (List UInt8)), v = .agg #[.int .i64 k, .string ty, .bool cr, .bool fl, .int .i64 n1, .int .i64 n2, .int .i64 n3, .string ck, .string tx, .string id, .slice ka kn kc, .slice ia inn ic] ∧
      KeyRow W ka kn lk ∧ StrRow W ia inn li ∧ kn ≤ 9223372036854775807 ∧ inn ≤ 9223372036854775807 := by
  obtain ⟨⟨cs⟩, rfl, hsz⟩ := hsz
  rw [c65] at hsz
  obtain ⟨e0, e1, e2, e3, e4, e5, e6, e7, e8, e9, e10, e11, rfl⟩ := list12 (l := cs) hsz
  have h : DataW.trod enc Tryz.prog W 0 (fun _ => true) true fuel 65 [e0, e1, e2, e3, e4, e5, e6, e7, e8, e9, e10, e11] = some x := h
  obtain ⟨xs, m2, _, _, _, hxl, hf⟩ := DataW.trod_struct Tryz.underlying65 h
  have f0 : DataW.trod enc Tryz.prog W 0 (fun _ => true) true m2 2 (([e0, e1, e2, e3, e4, e5, e6, e7, e8, e9, e10, e11].drop 0).take (Tryz.prog.cellsOf 2)) = xs[0]? := hf 0 _ rfl
  rw [c2, List.getElem?_eq_getElem (by rw [hxl]; decide)] at f0
  have f1 : DataW.trod enc Tryz.prog W 0 (fun _ => true) true m2 9 (([e0, e1, e2, e3, e4, e5, e6, e7, e8, e9, e10, e11].drop 1).take (Tryz.prog.cellsOf 9)) = xs[1]? := hf 1 _ rfl
  rw [c9, List.getElem?_eq_getElem (by rw [hxl]; decide)] at f1
  have f2 : DataW.trod enc Tryz.prog W 0 (fun _ => true) true m2 4 (([e0, e1, e2, e3, e4, e5, e6, e7, e8, e9, e10, e11].drop 2).take (Tryz.prog.cellsOf 4)) = xs[2]? := hf 2 _ rfl
  rw [c4, List.getElem?_eq_getElem (by rw [hxl]; decide)] at f2
  have f3 : DataW.trod enc Tryz.prog W 0 (fun _ => true) true m2 4 (([e0, e1, e2, e3, e4, e5, e6, e7, e8, e9, e10, e11].drop 3).take (Tryz.prog.cellsOf 4)) = xs[3]? := hf 3 _ rfl
  rw [c4, List.getElem?_eq_getElem (by rw [hxl]; decide)] at f3
  have f4 : DataW.trod enc Tryz.prog W 0 (fun _ => true) true m2 2 (([e0, e1, e2, e3, e4, e5, e6, e7, e8, e9, e10, e11].drop 4).take (Tryz.prog.cellsOf 2)) = xs[4]? := hf 4 _ rfl
  rw [c2, List.getElem?_eq_getElem (by rw [hxl]; decide)] at f4
  have f5 : DataW.trod enc Tryz.prog W 0 (fun _ => true) true m2 2 (([e0, e1, e2, e3, e4, e5, e6, e7, e8, e9, e10, e11].drop 5).take (Tryz.prog.cellsOf 2)) = xs[5]? := hf 5 _ rfl
  rw [c2, List.getElem?_eq_getElem (by rw [hxl]; decide)] at f5
  have f6 : DataW.trod enc Tryz.prog W 0 (fun _ => true) true m2 2 (([e0, e1, e2, e3, e4, e5, e6, e7, e8, e9, e10, e11].drop 6).take (Tryz.prog.cellsOf 2)) = xs[6]? := hf 6 _ rfl
  rw [c2, List.getElem?_eq_getElem (by rw [hxl]; decide)] at f6
  have f7 : DataW.trod enc Tryz.prog W 0 (fun _ => true) true m2 9 (([e0, e1, e2, e3, e4, e5, e6, e7, e8, e9, e10, e11].drop 7).take (Tryz.prog.cellsOf 9)) = xs[7]? := hf 7 _ rfl
  rw [c9, List.getElem?_eq_getElem (by rw [hxl]; decide)] at f7
  have f8 : DataW.trod enc Tryz.prog W 0 (fun _ => true) true m2 9 (([e0, e1, e2, e3, e4, e5, e6, e7, e8, e9, e10, e11].drop 8).take (Tryz.prog.cellsOf 9)) = xs[8]? := hf 8 _ rfl
  rw [c9, List.getElem?_eq_getElem (by rw [hxl]; decide)] at f8
  have f9 : DataW.trod enc Tryz.prog W 0 (fun _ => true) true m2 9 (([e0, e1, e2, e3, e4, e5, e6, e7, e8, e9, e10, e11].drop 9).take (Tryz.prog.cellsOf 9)) = xs[9]? := hf 9 _ rfl
  rw [c9, List.getElem?_eq_getElem (by rw [hxl]; decide)] at f9
  have f10 : DataW.trod enc Tryz.prog W 0 (fun _ => true) true m2 63 (([e0, e1, e2, e3, e4, e5, e6, e7, e8, e9, e10, e11].drop 10).take (Tryz.prog.cellsOf 63)) = xs[10]? := hf 10 _ rfl
  rw [c63, List.getElem?_eq_getElem (by rw [hxl]; decide)] at f10
  have f11 : DataW.trod enc Tryz.prog W 0 (fun _ => true) true m2 46 (([e0, e1, e2, e3, e4, e5, e6, e7, e8, e9, e10, e11].drop 11).take (Tryz.prog.cellsOf 46)) = xs[11]? := hf 11 _ rfl
  rw [c46, List.getElem?_eq_getElem (by rw [hxl]; decide)] at f11
  obtain ⟨z0, q0, _⟩ := DataW.trod_int Tryz.underlying2 f0
  obtain ⟨s1, q1, _, _⟩ := DataW.trod_string Tryz.underlying9 f1
  obtain ⟨b2, q2, _⟩ := DataW.trod_bool Tryz.underlying4 f2
  obtain ⟨b3, q3, _⟩ := DataW.trod_bool Tryz.underlying4 f3
  obtain ⟨z4, q4, _⟩ := DataW.trod_int Tryz.underlying2 f4
  obtain ⟨z5, q5, _⟩ := DataW.trod_int Tryz.underlying2 f5
  obtain ⟨z6, q6, _⟩ := DataW.trod_int Tryz.underlying2 f6
  obtain ⟨s7, q7, _, _⟩ := DataW.trod_string Tryz.underlying9 f7
  obtain ⟨s8, q8, _, _⟩ := DataW.trod_string Tryz.underlying9 f8
  obtain ⟨s9, q9, _, _⟩ := DataW.trod_string Tryz.underlying9 f9
  obtain ⟨ka, kn, kc, lk, rfl, hK, bk⟩ := keyRow_of f10
  obtain ⟨ia, inn, ic, li, rfl, hI, bi, _⟩ := strRow_of f11
  cases q0; cases q1; cases q2; cases q3; cases q4; cases q5; cases q6; cases q7; cases q8; cases q9
  exact ⟨z0, z4, z5, z6, s1, s7, s8, s9, b2, b3, ka, ia, kn, kc, inn, ic, lk, li, rfl, hK, hI, bk, bi⟩
end

end Go.Proofs.YtocjfcgailkfjaaGreatDoor
end
