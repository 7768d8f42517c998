/- bytes.Buffer.grow of a buffer that has a row, where there is no room. bytes.Buffer.Write of bytes that lie in another block. bytes.Buffer.Write: every case. -/
import Derived.Test.YtocjfcgailkfjaaGreatDoorMB2
import Derived.Test.YtocjfcgailkfjaaGreatDoorMA

set_option linter.unusedVariables false
set_option linter.unusedSimpArgs false
set_option linter.unusedSectionVars false

section
namespace Go.Proofs.YtocjfcgailkfjaaGreatDoor
open Go.RowKit
attribute [local go_sem ↓] Go.wp_at_zero Go.wp_at_succ

/-- What grow leaves. -/
def Grew (w w' : World) (d g0 l n : Nat) (lr : Int) (bs : List UInt8) : Prop :=
  ∃ g cap cur, w'.heap[d]? = some (.cells #[.slice (some ⟨g, 0, none⟩) (l + n) cap, .int .i64 0, .int .i8 lr] 208 (0, 0)) ∧ w'.heap[g]? = some (.cells cur 5 (0, 0)) ∧ cur.size = cap ∧ w.heap.size ≤ g ∧ l + n ≤ cap ∧ cap ≤ 9223372036854775807 ∧ BytesAt w' g 0 bs ∧ g0 ≠ g ∧ Ext (fun b => b = d) w w'

set_option maxHeartbeats 1600000 in
set_option maxRecDepth 100000 in
theorem grow_row (w : World) (d g0 l c n : Nat) (lr : Int) (bs : List UInt8) (z : Bool) (hz : ((l : Int) == 0) = z) (h : w.heap[d]? = some (.cells #[.slice (some ⟨g0, 0, none⟩) l c, .int .i64 0, .int .i8 lr] 208 (0, 0))) (hg0 : g0 < w.heap.size) (hgd : g0 ≠ d) (hB : BytesAt w g0 0 bs) (hl : Hid (bs.length = l)) (hlc : l ≤ c)
    (hc : c < l + n) (hlim : l + n ≤ 140737488355328) :
    Calls Tryz.prog 120 #[.pointer (some ⟨d, 0, none⟩), .int .i64 n] w fun e w' => e = .returned (.int .i64 l) ∧ Grew w w' d g0 l n lr bs := by
  have hq := fun w => Lib.run_eql_slice_nil (P := Tryz.prog) w 26 5 (some ⟨g0, 0, none⟩) l c 0 0 Tryz.underlying26
  have hslide : ¬ (n : Int) ≤ (c : Int) / 2 - (l : Int) := by omega
  have hmax : ¬ 9223372036854775807 - (c : Int) - (n : Int) < (c : Int) := by omega
  go_enter Tryz.func120, Tryz.ntmps120
  go_wp2_with fail
  refine (bufLen_any w d _ l c _ h (by omega)).mono ?_
  rintro e w1 ⟨rfl, hs⟩
  have E1 : Ext (fun b => b = d) w w1 := hs.ext
  have h1 := hs.get h
  have hB1 : BytesAt w1 g0 0 bs := hB.ext (S := none_) hs.ext (fun h => h)
  clear h hs
  have c0 := Lib.cell_of_heap h1
  have f0 := Lib.frozen_of_heap h1
  have hd0 := lt_of_block h1
  have hn1 : 1 ≤ n := by omega
  cases z
  all_goals
    go_wp2_with fail
    refine (tryGrow_none w1 d _ l c n lr h1 (by omega) (by omega) (by omega)).mono ?_
    rintro e w2 ⟨rfl, rfl⟩
    go_wp2_with fail
    have s0 : w2.cell? ⟨d, 0, none⟩ = some (.slice (some ⟨g0, 0, none⟩) l c) := by rw [c0]; rfl
    have s1 : w2.cell? ⟨d, 1, none⟩ = some (.int .i64 0) := by rw [c0]; rfl
    have hwn : IntKind.i64.wrap (n : Int) = (n : Int) := IntWalk.i64_in _ (by omega)
    go_cut [] from 9 (fun W => ∃ g cap cur, W.heap[d]? = some (.cells #[.slice (some ⟨g, 0, none⟩) l cap, .int .i64 0, .int .i8 lr] 208 (0, 0)) ∧ W.heap[g]? = some (.cells cur 5 (0, 0)) ∧ cur.size = cap ∧ w.heap.size ≤ g ∧ l + n ≤ cap ∧ cap ≤ 9223372036854775807 ∧ g ≠ d ∧ BytesAt W g 0 bs ∧ Ext (fun b => b = d) w W)
    case first =>
      go_region_with ((go_at_call 147; refine (growSlice_row g0 l c n bs w2.drew hB1 hl.out hlc hn1 hlim (by omega)).mono ?_; rintro e w3 ⟨g, cap, cur, rfl, hg, hgl, hcs, hBg, hge, hle, E3⟩; have k0 := E3.get h1 (fun h => h); have t0 := Lib.cell_of_heap k0; have t1 := Lib.frozen_of_heap k0))
      all_goals
        go_wp2_with fail
        go_meet
        case rel =>
          have hgl' : w2.heap.size ≤ g := hgl
          have := E1.size
          exact ⟨g, cap, cur, heap_set k0 _, heap_set_ne hg (by omega), hcs, by omega, hge, hle, by omega, hBg.of_heap (Below.heap_setCell _ _ _ _ (show g ≠ d by omega)), (E1.drew.trans E3.zero).setAt (.inr rfl) _⟩
    case rest =>
      obtain ⟨g, cap, cur, k0, hg, hcs, hgl, hge, hle, hgd', hBg, E3⟩ := hcut
      clear s0 s1 c0 f0 hB1
      have c0 := Lib.cell_of_heap k0
      have f0 := Lib.frozen_of_heap k0
      have hnc : (l : Int) + (n : Int) ≤ (cap : Int) := by omega
      go_wp2_with fail
      go_ret
      refine ⟨rfl, g, cap, cur, ?_, heap_set_ne (heap_set_ne hg hgd') hgd', hcs, hgl, hge, hle, ?_, by omega, (E3.setAt (.inr rfl) _).setAt (.inr rfl) _⟩
      · exact heap_set (heap_set k0 _) _
      · exact (hBg.of_heap (Below.heap_setCell _ _ _ _ hgd')).of_heap (Below.heap_setCell _ _ _ _ hgd')

end Go.Proofs.YtocjfcgailkfjaaGreatDoor
end

section
namespace Go.Proofs.YtocjfcgailkfjaaGreatDoor
open Go.RowKit

theorem Wrote.bytes {cur cur' : Array Value} {bs cs : List UInt8} {l : Nat} (h : Wrote cur cur' l cs) (hl : bs.length = l) (hb : ∀ (j : Nat) x, bs[j]? = some x → cur[j]? = some (.int .u8 x.toNat)) :
    ∀ (j : Nat) x, (bs ++ cs)[j]? = some x → cur'[j]? = some (.int .u8 x.toNat) := by
  intro j x hj
  by_cases hlt : j < bs.length
  · rw [List.getElem?_append_left hlt] at hj
    rw [h.out j (by omega)]; exact hb j x hj
  · rw [List.getElem?_append_right (by omega)] at hj
    have := h.inn _ _ hj
    rwa [show l + (j - bs.length) = j by omega] at this

/-- What Write leaves. -/
def Written (w w' : World) (d : Nat) (row : Option Nat) (all : List UInt8) : Prop :=
  ∃ row', BufAt w' d row' all ∧ (row' = row ∨ ∃ g, row' = some g ∧ w.heap.size ≤ g) ∧ Ext (fun b => b = d ∨ row = some b) w w'

set_option maxHeartbeats 400000 in
set_option maxRecDepth 100000 in
/-- There is room. -/
theorem write_room (w : World) (d g l cap sg so sc n : Nat) (lr : Int) (bs cs : List UInt8) (cur : Array Value) (h : w.heap[d]? = some (.cells #[.slice (some ⟨g, 0, none⟩) l cap, .int .i64 0, .int .i8 lr] 208 (0, 0))) (hg : w.heap[g]? = some (.cells cur 5 (0, 0))) (hgd : g ≠ d) (hcs : cur.size = cap)
    (hc : cap ≤ 9223372036854775807) (hb : ∀ (j : Nat) x, bs[j]? = some x → cur[j]? = some (.int .u8 x.toNat)) (hl : Hid (bs.length = l)) (hn : Hid (cs.length = n)) (hn0 : 0 < n) (hroom : l + n ≤ cap) (hB : BytesAt w sg so cs) (hsd : sg ≠ d) (hsg : sg ≠ g) :
    Calls Tryz.prog 81 #[.pointer (some ⟨d, 0, none⟩), .slice (some ⟨sg, so, none⟩) n sc] w fun e w' => e = .returned (.tuple #[.int .i64 n, .nilIface]) ∧ Written w w' d (some g) (bs ++ cs) := by
  go_enter Tryz.func81, Tryz.ntmps81
  have c0 := Lib.cell_of_heap h
  have f0 := Lib.frozen_of_heap h
  go_wp2_with fail
  clear c0 f0
  refine cutC (fun W => W.heap[d]? = some (.cells #[.slice (some ⟨g, 0, none⟩) l cap, .int .i64 0, .int .i8 0] 208 (0, 0)) ∧ W.heap[g]? = some (.cells cur 5 (0, 0)) ∧ Ext (fun b => b = d ∨ some g = some b) w W) ⟨heap_set h _, heap_set_ne hg hgd, (Ext.refl _ w).setAt (.inr (.inl rfl)) _⟩ ?_
  rintro W ⟨h1, hg1, E1⟩
  refine (tryGrow_room W d g l cap n 0 h1 hroom hc).mono ?_
  rintro e w2 ⟨rfl, rfl⟩
  dsimp only
  go_step
  clear h hg
  refine cutL (fun W2 => W2.heap[d]? = some (.cells #[.slice (some ⟨g, 0, none⟩) (l + n) cap, .int .i64 0, .int .i8 0] 208 (0, 0)) ∧ W2.heap[g]? = some (.cells cur 5 (0, 0)) ∧ Ext (fun b => b = d ∨ some g = some b) w W2) ⟨heap_set h1 _, heap_set_ne hg1 hgd, E1.setAt (.inr (.inl rfl)) _⟩ ?_
  clear h1 hg1 E1
  rintro W2 ⟨h2, hg2, E2⟩
  have hB2 := hB.ext E2 (by simp; omega)
  obtain ⟨cur', hcur, hcp⟩ := copy_wrote W2 3 g l n (cap - l) sg so n sc cs cur 5 n (by have := hn.out; omega) hn.out.symm hB2 hg2 (by omega)
  have c1 := Lib.cell_of_heap h2
  have hcl : ¬ cap = l := by omega
  go_wp2_with fail
  go_ret2
  have E3 := E2.setRow (g := g) (fun _ => .inr rfl) cur'
  have hcs' : cs.take n = cs := List.take_of_length_le (by have := hn.out; omega)
  rw [hcs'] at hcur
  refine ⟨rfl, some g, ⟨0, .inr ⟨g, cap, cur', rfl, hgd, ?_, setRow_heap _ _ _ _ _ _ hg2, by rw [hcur.size, hcs], by rw [List.length_append, hl.out, hn.out]; exact hroom, hc, hcur.bytes hl.out hb⟩⟩, .inl rfl, E3⟩
  rw [setRow_other _ _ _ _ (Ne.symm hgd), List.length_append, hl.out, hn.out]; exact h2

end Go.Proofs.YtocjfcgailkfjaaGreatDoor
end

section
namespace Go.Proofs.YtocjfcgailkfjaaGreatDoor
open Go.RowKit

def Grew1 (w w' : World) (d l n : Nat) (lr : Int) (bs : List UInt8) : Prop :=
  ∃ g cap cur, w'.heap[d]? = some (.cells #[.slice (some ⟨g, 0, none⟩) (l + n) cap, .int .i64 0, .int .i8 lr] 208 (0, 0)) ∧ w'.heap[g]? = some (.cells cur 5 (0, 0)) ∧ cur.size = cap ∧ w.heap.size ≤ g ∧ l + n ≤ cap ∧ cap ≤ 9223372036854775807 ∧ BytesAt w' g 0 bs ∧ Ext (fun b => b = d) w w'

set_option maxHeartbeats 400000 in
set_option maxRecDepth 100000 in
/-- There is no room. -/
theorem write_grow (w : World) (d l cap sg so sc n : Nat) (a : Option Addr) (lr : Int) (bs cs : List UInt8) (row : Option Nat) (h : w.heap[d]? = some (.cells #[.slice a l cap, .int .i64 0, .int .i8 lr] 208 (0, 0)))
    (hlc : l ≤ cap) (hc : cap ≤ 9223372036854775807) (hl : Hid (bs.length = l)) (hn : Hid (cs.length = n)) (hn0 : 0 < n) (hroom : cap < l + n) (hB : BytesAt w sg so cs) (hsd : sg ≠ d)
    (hgrow : ∀ W, W.heap[d]? = some (.cells #[.slice a l cap, .int .i64 0, .int .i8 0] 208 (0, 0)) → Ext (fun b => b = d) w W → Calls Tryz.prog 120 #[.pointer (some ⟨d, 0, none⟩), .int .i64 n] W fun e w' => e = .returned (.int .i64 l) ∧ Grew1 W w' d l n 0 bs) :
    Calls Tryz.prog 81 #[.pointer (some ⟨d, 0, none⟩), .slice (some ⟨sg, so, none⟩) n sc] w fun e w' => e = .returned (.tuple #[.int .i64 n, .nilIface]) ∧ Written w w' d row (bs ++ cs) := by
  have HG := Lib.hid hgrow
  clear hgrow
  go_enter Tryz.func81, Tryz.ntmps81
  have c0 := Lib.cell_of_heap h
  have f0 := Lib.frozen_of_heap h
  have hsl := hB.lt
  go_wp2_with fail
  clear c0 f0
  refine cutC (fun W => W.heap[d]? = some (.cells #[.slice a l cap, .int .i64 0, .int .i8 0] 208 (0, 0)) ∧ Ext (fun b => b = d) w W) ⟨heap_set h _, (Ext.refl (fun b => b = d) w).setAt (b := d) (.inr rfl) _⟩ ?_
  rintro W ⟨h1, E1⟩
  refine (tryGrow_none W d a l cap n 0 h1 hroom hlc hc).mono ?_
  rintro e w2 ⟨rfl, rfl⟩
  go_wp2_with fail
  refine (HG.out w2 h1 E1).mono ?_
  rintro e w3 ⟨rfl, g, cap', cur, h3, hg3, hcs, hgl, hroom', hc', hBg, E3⟩
  have hdl := lt_of_block h1
  have hgd : g ≠ d := by omega
  have hs1 := E1.size
  have hsg : sg ≠ g := by omega
  have E4 := E1.trans E3
  have hB2 := hB.ext E4 hsd
  obtain ⟨cur', hcur, hcp⟩ := copy_wrote w3 3 g l n (cap' - l) sg so n sc cs cur 5 n (by have := hn.out; omega) hn.out.symm hB2 hg3 (by omega)
  clear HG h1 E1 E3
  have c1 := Lib.cell_of_heap h3
  have hcl : ¬ cap' = l := by omega
  go_wp2_with fail
  go_ret2
  have hcs' : cs.take n = cs := List.take_of_length_le (by have := hn.out; omega)
  rw [hcs'] at hcur
  refine ⟨rfl, some g, ⟨0, .inr ⟨g, cap', cur', rfl, hgd, ?_, setRow_heap _ _ _ _ _ _ hg3, by rw [hcur.size, hcs], by rw [List.length_append, hl.out, hn.out]; exact hroom', hc', hcur.bytes hl.out ?_⟩⟩, .inr ⟨g, rfl, by omega⟩, ?_⟩
  · rw [setRow_other _ _ _ _ (Ne.symm hgd), List.length_append, hl.out, hn.out]; exact h3
  · obtain ⟨c2, T2, f2, hh, hr⟩ := hBg
    rw [hg3] at hh
    obtain ⟨rfl, -, -⟩ := (Obj.cells.injEq ..).mp (Option.some.inj hh)
    intro j x hj
    have := hr j x hj
    rwa [Nat.zero_add] at this
  · exact (E4.mono (fun i _ h => .inl h)).setRow (fun h => by omega) _

set_option maxHeartbeats 400000 in
set_option maxRecDepth 100000 in
/-- Nothing is written: whatever slice of no byte. -/
theorem write_none (w : World) (d : Nat) (row : Option Nat) (sa : Option Addr) (sc : Nat) (bs : List UInt8) (h : BufAt w d row bs) :
    Calls Tryz.prog 81 #[.pointer (some ⟨d, 0, none⟩), .slice sa 0 sc] w fun e w' => e = .returned (.tuple #[.int .i64 0, .nilIface]) ∧ Written w w' d row (bs ++ []) := by
  rw [List.append_nil]
  have hcp : ∀ w da dl dc, (Builtin.copy_ #[26, 26] 3 #[.slice da dl dc, .slice sa 0 sc]).run Tryz.prog w = .ok (.int .i64 0) w := fun w da dl dc => by
    have := run_copy_none (P := Tryz.prog) w 26 26 3 5 da sa dl dc 0 sc Tryz.underlying26 (by kernel_rfl) (by simp)
    rw [this]; rfl
  obtain ⟨lr, ⟨rfl, rfl, h⟩ | ⟨g, cap, cur, rfl, hgd, h, hg, hcs, hlc, hc, hb⟩⟩ := h
  · go_enter Tryz.func81, Tryz.ntmps81
    have c0 := Lib.cell_of_heap h
    have f0 := Lib.frozen_of_heap h
    go_wp2_with fail
    clear c0 f0
    refine cutC (fun W => W.heap[d]? = some (.cells #[.slice none 0 0, .int .i64 0, .int .i8 0] 208 (0, 0)) ∧ Ext (fun b => b = d ∨ none = some b) w W) ⟨heap_set h _, (Ext.refl _ w).setAt (.inr (.inl rfl)) _⟩ ?_
    rintro W ⟨h1, E1⟩
    refine (tryGrow_nil0 W d 0 h1).mono ?_
    rintro e w2 ⟨rfl, rfl⟩
    have h2 := heap_set h1 (i := 0) (.slice none 0 0)
    have E2 := E1.setAt (b := d) (i := 0) (.inr (.inl rfl)) (.slice none 0 0)
    have c1 := Lib.cell_of_heap h2
    go_wp2_with fail
    go_ret2
    exact ⟨rfl, none, ⟨0, .inl ⟨rfl, rfl, h2⟩⟩, .inl rfl, E2⟩
  · go_enter Tryz.func81, Tryz.ntmps81
    have c0 := Lib.cell_of_heap h
    have f0 := Lib.frozen_of_heap h
    go_wp2_with fail
    clear c0 f0
    refine cutC (fun W => W.heap[d]? = some (.cells #[.slice (some ⟨g, 0, none⟩) bs.length cap, .int .i64 0, .int .i8 0] 208 (0, 0)) ∧ W.heap[g]? = some (.cells cur 5 (0, 0)) ∧ Ext (fun b => b = d ∨ some g = some b) w W) ⟨heap_set h _, heap_set_ne hg hgd, (Ext.refl _ w).setAt (.inr (.inl rfl)) _⟩ ?_
    rintro W ⟨h1, hg1, E1⟩
    refine (tryGrow_room W d g bs.length cap 0 0 h1 (by omega) hc).mono ?_
    rintro e w2 ⟨rfl, rfl⟩
    rw [Nat.add_zero]
    dsimp only
    go_step
    refine cutL (fun W2 => W2.heap[d]? = some (.cells #[.slice (some ⟨g, 0, none⟩) bs.length cap, .int .i64 0, .int .i8 0] 208 (0, 0)) ∧ W2.heap[g]? = some (.cells cur 5 (0, 0)) ∧ Ext (fun b => b = d ∨ some g = some b) w W2) ⟨heap_set h1 _, heap_set_ne hg1 hgd, E1.setAt (.inr (.inl rfl)) _⟩ ?_
    clear h1 hg1 E1 h hg
    rintro W2 ⟨h2, hg2, E2⟩
    have c1 := Lib.cell_of_heap h2
    have fin : BufAt W2 d (some g) bs := ⟨0, .inr ⟨g, cap, cur, rfl, hgd, h2, hg2, hcs, hlc, hc, hb⟩⟩
    have hli : (bs.length : Int) ≤ 9223372036854775807 := by omega
    by_cases hcl : cap = bs.length
    · go_wp2_with fail
      go_ret2
      exact ⟨rfl, some g, fin, .inl rfl, E2⟩
    · go_wp2_with fail
      go_ret2
      exact ⟨rfl, some g, fin, .inl rfl, E2⟩

/-- Write, whatever the case. -/
theorem write_any (w : World) (d : Nat) (row : Option Nat) (sa : Option Addr) (sc : Nat) (bs cs : List UInt8) (h : BufAt w d row bs) (hs : cs = [] ∨ ∃ sg so, sa = some ⟨sg, so, none⟩ ∧ BytesAt w sg so cs ∧ sg ≠ d ∧ row ≠ some sg) (hlim : bs.length + cs.length ≤ 140737488355328) :
    Calls Tryz.prog 81 #[.pointer (some ⟨d, 0, none⟩), .slice sa cs.length sc] w fun e w' => e = .returned (.tuple #[.int .i64 (cs.length : Nat), .nilIface]) ∧ Written w w' d row (bs ++ cs) := by
  rcases hs with rfl | ⟨sg, so, rfl, hB, hsd, hsr⟩
  · exact write_none w d row sa sc bs h
  · by_cases hn0 : cs.length = 0
    · have := List.eq_nil_of_length_eq_zero hn0
      subst this
      exact write_none w d row _ sc bs h
    obtain ⟨lr, ⟨rfl, rfl, h⟩ | ⟨g, cap, cur, rfl, hgd, h, hg, hcs, hlc, hc, hb⟩⟩ := h
    · refine write_grow w d 0 0 sg so sc cs.length none lr [] cs none h (by omega) (by omega) rfl rfl (by omega) (by omega) hB hsd fun W hW _ => ?_
      have hd0 := lt_of_block hW
      by_cases h64 : cs.length ≤ 64
      · refine (grow_small W d cs.length 0 hW (by omega) h64).mono ?_
        rintro e w' ⟨rfl, g, cap, cur, r1, r2, r3, r4, r5, r6, r7⟩
        exact ⟨rfl, g, cap, cur, by rw [Nat.zero_add]; exact r1, r2, r3, r4, by omega, r6, ⟨cur, 5, (0, 0), r2, fun _ _ hj => by simp at hj⟩, r7⟩
      · refine (grow_nil W d cs.length 0 hW (by omega) (by simp at hlim; omega)).mono ?_
        rintro e w' ⟨rfl, g, cap, cur, r1, r2, r3, r4, r5, r6, r7⟩
        exact ⟨rfl, g, cap, cur, by rw [Nat.zero_add]; exact r1, r2, r3, r4, by omega, r6, ⟨cur, 5, (0, 0), r2, fun _ _ hj => by simp at hj⟩, r7⟩
    · have hsg : sg ≠ g := fun e => hsr (by rw [e])
      by_cases hroom : bs.length + cs.length ≤ cap
      · exact write_room w d g bs.length cap sg so sc cs.length lr bs cs cur h hg hgd hcs hc hb rfl rfl (by omega) hroom hB hsd hsg
      · refine write_grow w d bs.length cap sg so sc cs.length _ lr bs cs (some g) h hlc hc rfl rfl (by omega) (by omega) hB hsd fun W hW E => ?_
        have hBg : BytesAt W g 0 bs := BytesAt.ext ⟨cur, 5, (0, 0), hg, fun j x hj => by rw [Nat.zero_add]; exact hb j x hj⟩ E hgd
        refine (grow_row W d g bs.length cap cs.length 0 bs _ rfl hW hBg.lt hgd hBg rfl hlc (by omega) hlim).mono ?_
        rintro e w' ⟨rfl, g', cap', cur', r1, r2, r3, r4, r5, r6, r7, r8, r9⟩
        exact ⟨rfl, g', cap', cur', r1, r2, r3, r4, r5, r6, r7, r9⟩

end Go.Proofs.YtocjfcgailkfjaaGreatDoor
end
