/- The readers: bytes.Reader.Read and bytes.Buffer.Read over a reader whose bytes are known. io.ReadAtLeast, io.ReadFull at one byte, readByte; io.LimitReader, io.ReadAll at the contents of a packet. io.ReadAll over io.LimitReader at the contents of a packet: N bytes, 0 < N ≤ 480. readIdentifier at a tag below 31. -/
import Derived.Test.YtocjfcgailkfjaaGreatDoorProg
import Derived.Test.YtocjfcgailkfjaaGreatDoorMA
import Derived.BigRegion
import Derived.Deep.RegionHeld3
import Derived.RegionCalls
import Derived.Deep.RegionWith
import Derived.Deep.DeepCutAuto
import Derived.Deep.CutBlock

set_option linter.unusedVariables false
set_option linter.unusedSimpArgs false
set_option linter.unusedSectionVars false

section
namespace Go.Proofs.YtocjfcgailkfjaaGreatDoor
open Go.RowKit

/-- A reader at block r (k: a bytes.Buffer; else a bytes.Reader) whose data lie in block g; 'rest' is still to be read. -/
def IsRd (k : Bool) (w : World) (r g : Nat) (rest : List UInt8) : Prop :=
  ∃ (n c i : Nat) (x : Value), w.heap[r]? = some (.cells #[.slice (some ⟨g, 0, none⟩) n c, .int .i64 i, x] (if k then 208 else 282)) ∧ g ≠ r ∧ i + rest.length = n ∧ n ≤ c ∧ c ≤ 9223372036854775807 ∧ BytesAt w g i rest ∧ x.oneCell' = true

theorem IsRd.lt {k : Bool} {w : World} {r g : Nat} {rest : List UInt8} (h : IsRd k w r g rest) : r < w.heap.size ∧ g < w.heap.size ∧ g ≠ r := by
  obtain ⟨n, c, i, x, hr, hgr, -, -, -, hB, -⟩ := h
  exact ⟨lt_of_block hr, hB.lt, hgr⟩
theorem IsRd.ext {S : Nat → Prop} {k : Bool} {w w' : World} {r g : Nat} {rest : List UInt8} (h : IsRd k w r g rest) (e : Ext S w w') (hr : ¬ S r) (hg : ¬ S g) : IsRd k w' r g rest := by
  obtain ⟨n, c, i, x, h1, hgr, h2, h3, h4, hB, hx⟩ := h
  exact ⟨n, c, i, x, e.get h1 hr, hgr, h2, h3, h4, hB.ext e hg, hx⟩

/-- copy(dst, src) of bytes that lie in another block. -/
theorem copy_bytes (w : World) (ty d o len cap g i sl sc : Nat) (l : List UInt8) (cur : Array Value) (T : TypeId) (m : Nat) (hm : m = min l.length len) (hsl : sl = l.length) (hB : BytesAt w g i l)
    (hd : w.heap[d]? = some (.cells cur T (0, 0))) (hfit : o + len ≤ cur.size) :
    (Builtin.copy_ #[26, 26] ty #[.slice (some ⟨d, o, none⟩) len cap, .slice (some ⟨g, i, none⟩) sl sc]).run Tryz.prog w =
      .ok (.int .i64 m) (w.setRow d (cur.toList.take o ++ Lib.byteCells (l.take m) ++ cur.toList.drop (o + m)).toArray) := by
  have := run_copy_row (P := Tryz.prog) w 26 26 ty 5 d o len cap ⟨g, i, none⟩ sl sc cur T (Lib.byteCells (l.take m)) Tryz.underlying26 (by kernel_rfl)
      hd (by rw [Lib.byteCells_length, List.length_take]; show _ = min _ _; omega) (hB.take m).src (by rw [Lib.byteCells_length, List.length_take]; omega) (byteCells_one _)
  rw [this]
  rw [Lib.byteCells_length, List.length_take, show min m l.length = m by omega]
  rfl

theorem copy_wrote (w : World) (ty d o len cap g i sl sc : Nat) (l : List UInt8) (cur : Array Value) (T : TypeId) (m : Nat) (hm : m = min l.length len) (hsl : sl = l.length) (hB : BytesAt w g i l)
    (hd : w.heap[d]? = some (.cells cur T (0, 0))) (hfit : o + len ≤ cur.size) :
    ∃ cur', Wrote cur cur' o (l.take m) ∧
    (Builtin.copy_ #[26, 26] ty #[.slice (some ⟨d, o, none⟩) len cap, .slice (some ⟨g, i, none⟩) sl sc]).run Tryz.prog w = .ok (.int .i64 m) (w.setRow d cur') := by
  refine ⟨_, ?_, copy_bytes w ty d o len cap g i sl sc l cur T m hm hsl hB hd hfit⟩
  have h := Wrote.mk' cur o (l.take m) (by rw [List.length_take]; omega)
  rwa [List.length_take, show min m l.length = m by omega] at h

set_option maxHeartbeats 400000 in
theorem reader_read (w : World) (r g d o len cap : Nat) (rest : List UInt8) (cur : Array Value) (T : TypeId) (m : Nat) (Hm : Hid (m = min rest.length len)) (h : IsRd false w r g rest) (hne : rest ≠ []) (_hlen : 0 < len) (hd : w.heap[d]? = some (.cells cur T (0, 0))) (hdr : d ≠ r) (hdg : d ≠ g) (hfit : o + len ≤ cur.size) :
    Calls Tryz.prog 208 #[.pointer (some ⟨r, 0, none⟩), .slice (some ⟨d, o, none⟩) len cap] w fun e w' => e = .returned (.tuple #[.int .i64 (m : Int), .nilIface]) ∧
      (∃ cur', Wrote cur cur' o (rest.take m) ∧ w'.heap[d]? = some (.cells cur' T (0, 0))) ∧ IsRd false w' r g (rest.drop m) ∧ Ext (fun b => b = r ∨ b = d) w w' := by
  obtain ⟨n, c, i, x, hr, hgr, hin, hnc, hcm, hB, hx⟩ := h
  have hpos : 0 < rest.length := List.length_pos_iff.2 hne
  have hlt : ¬ (n : Int) ≤ (i : Int) := by omega
  have hi0 : (0 : Int) ≤ (i : Int) := by omega
  have hic : ¬ c = i := by omega
  have hin0 : ¬ n ≤ i := by omega
  simp only [Bool.false_eq_true, if_false] at hr
  go_enter Tryz.func208, Tryz.ntmps208
  have c0 := Lib.cell_of_heap hr
  have f0 := Lib.frozen_of_heap hr
  go_wp2
  go_quiet (fail)
  go_wp2
  clear c0 f0
  refine cutW (fun W => W.heap[r]? = some (.cells #[.slice (some ⟨g, 0, none⟩) n c, .int .i64 i, .int .i64 (-1)] 282) ∧ W.heap[d]? = some (.cells cur T (0, 0)) ∧ Ext (fun b => b = r ∨ b = d) w W) ⟨heap_set (w := w.drewN nq) hr _, heap_set_ne (w := w.drewN nq) hd hdr, ((Ext.refl _ w).drewN nq).setCell (fun _ => .inl rfl) _⟩ ?_
  rintro W ⟨hr1, hd1, E1⟩
  have hB1 := hB.ext E1 (by omega)
  obtain ⟨cur', hcur, hcp⟩ := copy_wrote W.drew 3 d o len cap g i (n - i) (c - i) rest cur T m Hm.out (by omega) hB1 hd1 hfit
  have c1 := Lib.cell_of_heap hr1
  go_region
  go_step
  go_step
  clear c1 hcp
  refine cutW (fun W' => W'.heap[r]? = some (.cells #[.slice (some ⟨g, 0, none⟩) n c, .int .i64 i, .int .i64 (-1)] 282) ∧ W'.heap[d]? = some (.cells cur' T (0, 0)) ∧ Ext (fun b => b = r ∨ b = d) w W')
    ⟨by rw [setRow_other _ _ _ _ (Ne.symm hdr)]; exact hr1, setRow_heap W.drew _ _ _ _ _ hd1, E1.drew.setRow (fun _ => .inr rfl) _⟩ ?_
  rintro W2 ⟨hr2, hd2, E2⟩
  have c2 := Lib.cell_of_heap hr2
  have f2 := Lib.frozen_of_heap hr2
  have hm1 : m ≤ rest.length := by have := Hm.out; omega
  have hm2 : (i : Int) + m ≤ 9223372036854775807 := by omega
  go_wp2
  go_ret2
  have hr3 := heap_set hr2 (i := 1) (.int .i64 ((i : Int) + m))
  have E3 := E2.setCell (p := ⟨r, 1, none⟩) (fun _ => .inl rfl) (.int .i64 ((i : Int) + m))
  refine ⟨rfl, ⟨cur', hcur, heap_set_ne hd2 hdr⟩, ⟨n, c, i + m, .int .i64 (-1), hr3, hgr, by rw [List.length_drop]; omega, hnc, hcm, (hB.ext E3 (by omega)).drop m, rfl⟩, E3⟩

set_option maxHeartbeats 400000 in
theorem buffer_empty (w : World) (r g n c i : Nat) (x : Value) (hr : w.heap[r]? = some (.cells #[.slice (some ⟨g, 0, none⟩) n c, .int .i64 i, x] 208)) (hlt : ¬ (n : Int) ≤ (i : Int)) :
    Calls Tryz.prog 252 #[.pointer (some ⟨r, 0, none⟩)] w fun e w' => e = .returned (.bool false) ∧ ∃ k, w' = w.drewN k := by
  have hin0 : ¬ n ≤ i := by omega
  go_enter Tryz.func252, Tryz.ntmps252
  have c0 := Lib.cell_of_heap hr
  go_wp2
  go_quiet (fail)
  go_wp2
  go_ret
  exact ⟨by simp, nq, rfl⟩

set_option maxHeartbeats 400000 in
theorem buffer_read (w : World) (r g d o len cap : Nat) (rest : List UInt8) (cur : Array Value) (T : TypeId) (m : Nat) (Hm : Hid (m = min rest.length len)) (h : IsRd true w r g rest) (hne : rest ≠ []) (_hlen : 0 < len) (hd : w.heap[d]? = some (.cells cur T (0, 0))) (hdr : d ≠ r) (hdg : d ≠ g) (hfit : o + len ≤ cur.size) :
    Calls Tryz.prog 251 #[.pointer (some ⟨r, 0, none⟩), .slice (some ⟨d, o, none⟩) len cap] w fun e w' => e = .returned (.tuple #[.int .i64 (m : Int), .nilIface]) ∧
      (∃ cur', Wrote cur cur' o (rest.take m) ∧ w'.heap[d]? = some (.cells cur' T (0, 0))) ∧ IsRd true w' r g (rest.drop m) ∧ Ext (fun b => b = r ∨ b = d) w w' := by
  obtain ⟨n, c, i, x, hr, hgr, hin, hnc, hcm, hB, hx⟩ := h
  have hpos : 0 < rest.length := List.length_pos_iff.2 hne
  have hlt : ¬ (n : Int) ≤ (i : Int) := by omega
  have hi0 : (0 : Int) ≤ (i : Int) := by omega
  have hic : ¬ c = i := by omega
  have hin0 : ¬ n ≤ i := by omega
  simp only [if_true] at hr
  go_enter Tryz.func251, Tryz.ntmps251
  have c0 := Lib.cell_of_heap hr
  have f0 := Lib.frozen_of_heap hr
  go_wp2_with fail
  clear c0 f0
  refine cutC (fun W => W.heap[r]? = some (.cells #[.slice (some ⟨g, 0, none⟩) n c, .int .i64 i, .int .i8 0] 208) ∧ W.heap[d]? = some (.cells cur T (0, 0)) ∧ Ext (fun b => b = r ∨ b = d) w W) ⟨heap_set (w := w) hr _, heap_set_ne hd hdr, (Ext.refl _ w).setCell (fun _ => .inl rfl) _⟩ ?_
  rintro W ⟨hr1, hd1, E1⟩
  refine (buffer_empty W r g n c i _ hr1 (by omega)).mono ?_
  rintro e w' ⟨rfl, k, rfl⟩
  have c0 := Lib.cell_of_heap hr1
  go_wp2_with fail
  have hr2 : (W.drewN k).heap[r]? = _ := hr1
  have hd2 : (W.drewN k).heap[d]? = _ := hd1
  have E2 := E1.drewN k
  generalize W.drewN k = W2 at *
  clear c0
  have hB1 := hB.ext E2 (by omega)
  obtain ⟨cur', hcur, hcp⟩ := copy_wrote W2.drew 3 d o len cap g i (n - i) (c - i) rest cur T m Hm.out (by omega) hB1 hd2 hfit
  have c1 := Lib.cell_of_heap hr2
  go_region
  go_step
  go_step
  clear c1 hcp
  refine cutW (fun W' => W'.heap[r]? = some (.cells #[.slice (some ⟨g, 0, none⟩) n c, .int .i64 i, .int .i8 0] 208) ∧ W'.heap[d]? = some (.cells cur' T (0, 0)) ∧ Ext (fun b => b = r ∨ b = d) w W')
    ⟨by rw [setRow_other _ _ _ _ (Ne.symm hdr)]; exact hr2, setRow_heap W2.drew _ _ _ _ _ hd2, E2.drew.setRow (fun _ => .inr rfl) _⟩ ?_
  rintro W3 ⟨hr3, hd3, E3⟩
  have c2 := Lib.cell_of_heap hr3
  have f2 := Lib.frozen_of_heap hr3
  have hm0 : 0 < m := by have := Hm.out; omega
  have hm1 : m ≤ rest.length := by have := Hm.out; omega
  have hm2 : (i : Int) + m ≤ 9223372036854775807 := by omega
  go_wp2
  go_ret2
  have hr4 := heap_set (heap_set hr3 (i := 1) (.int .i64 ((i : Int) + m))) (i := 2) (.int .i8 (-1))
  have E4 := (E3.setCell (p := ⟨r, 1, none⟩) (fun _ => .inl rfl) (.int .i64 ((i : Int) + m))).setCell (p := ⟨r, 2, none⟩) (fun _ => .inl rfl) (.int .i8 (-1))
  refine ⟨rfl, ⟨cur', hcur, heap_set_ne (heap_set_ne hd3 hdr) hdr⟩, ⟨n, c, i + m, .int .i8 (-1), hr4, hgr, by rw [List.length_drop]; omega, hnc, hcm, (hB.ext E4 (by omega)).drop m, rfl⟩, E4⟩

theorem method_reader (a : Addr) (w : World) : (method 540 140 (.pointer (some a)) "Read").run Tryz.prog w = .ok (208, .pointer (some a)) w := by kernel_rfl
theorem method_buffer (a : Addr) (w : World) : (method 540 217 (.pointer (some a)) "Read").run Tryz.prog w = .ok (251, .pointer (some a)) w := by kernel_rfl
theorem method_limited (a : Addr) (w : World) : (method 540 360 (.pointer (some a)) "Read").run Tryz.prog w = .ok (273, .pointer (some a)) w := by kernel_rfl
theorem ahead_reader (a : Addr) (w : World) : (nilAhead 540 140 (.pointer (some a)) "Read").run Tryz.prog w = .ok (some false) w := by kernel_rfl
theorem ahead_buffer (a : Addr) (w : World) : (nilAhead 540 217 (.pointer (some a)) "Read").run Tryz.prog w = .ok (some false) w := by kernel_rfl
theorem ahead_limited (a : Addr) (w : World) : (nilAhead 540 360 (.pointer (some a)) "Read").run Tryz.prog w = .ok (some false) w := by kernel_rfl

/-- What a walk needs to know of one of the two readers' types. -/
structure RdKind (k : Bool) (t : TypeId) (f : FuncId) : Prop where
  method : ∀ (a : Addr) (w : World), (method 540 t (.pointer (some a)) "Read").run Tryz.prog w = .ok (f, .pointer (some a)) w
  ahead : ∀ (a : Addr) (w : World), (nilAhead 540 t (.pointer (some a)) "Read").run Tryz.prog w = .ok (some false) w
  enters : ∀ (args : Array Value) (w : World), (callFunc f args).run Tryz.prog w = .ok (.enter f args) w
  read : ∀ (w : World) (r g d o len cap : Nat) (rest : List UInt8) (cur : Array Value) (T : TypeId) (m : Nat) (_ : Hid (m = min rest.length len)) (_ : IsRd k w r g rest) (_ : rest ≠ []) (_ : 0 < len) (_ : w.heap[d]? = some (.cells cur T (0, 0))) (_ : d ≠ r) (_ : d ≠ g) (_ : o + len ≤ cur.size),
    Calls Tryz.prog f #[.pointer (some ⟨r, 0, none⟩), .slice (some ⟨d, o, none⟩) len cap] w fun e w' => e = .returned (.tuple #[.int .i64 (m : Int), .nilIface]) ∧
      (∃ cur', Wrote cur cur' o (rest.take m) ∧ w'.heap[d]? = some (.cells cur' T (0, 0))) ∧ IsRd k w' r g (rest.drop m) ∧ Ext (fun b => b = r ∨ b = d) w w'

def rdT (k : Bool) : TypeId := if k then 217 else 140
theorem rdKind (k : Bool) : ∃ f, RdKind k (rdT k) f := by
  cases k
  · exact ⟨208, method_reader, ahead_reader, fun _ _ => by kernel_rfl, reader_read⟩
  · exact ⟨251, method_buffer, ahead_buffer, fun _ _ => by kernel_rfl, buffer_read⟩

set_option maxRecDepth 100000 in
set_option maxHeartbeats 400000 in
theorem limited_read (w : World) (k : Bool) (L r g d o len cap : Nat) (N : Nat) (rest : List UInt8) (cur : Array Value) (T : TypeId) (h : IsRd k w r g rest) (hN0 : 0 < N) (hN : N ≤ rest.length) (hNl : N < len) (hlc : len ≤ cap) (hd : w.heap[d]? = some (.cells cur T (0, 0))) (hL : w.heap[L]? = some (.cells #[.iface (rdT k) (.pointer (some ⟨r, 0, none⟩)), .int .i64 (N : Int)] 362)) (hLr : L ≠ r) (hLg : L ≠ g) (hLd : L ≠ d) (hdr : d ≠ r) (hdg : d ≠ g) (hfit : o + len ≤ cur.size) (hNm : N ≤ 9223372036854775807) :
    Calls Tryz.prog 273 #[.pointer (some ⟨L, 0, none⟩), .slice (some ⟨d, o, none⟩) len cap] w fun e w' => e = .returned (.tuple #[.int .i64 (N : Int), .nilIface]) ∧
      (∃ cur', Wrote cur cur' o (rest.take N) ∧ w'.heap[d]? = some (.cells cur' T (0, 0))) ∧ w'.heap[L]? = some (.cells #[.iface (rdT k) (.pointer (some ⟨r, 0, none⟩)), .int .i64 0] 362) ∧ IsRd k w' r g (rest.drop N) ∧ Ext (fun b => b = r ∨ b = d ∨ b = L) w w' := by
  have hne : rest ≠ [] := by intro e; rw [e] at hN; simp at hN; omega
  obtain ⟨f, K⟩ := rdKind k
  generalize rdT k = t at *
  have hm := K.method
  have hent := K.enters
  go_enter Tryz.func273, Tryz.ntmps273
  have c0 := Lib.cell_of_heap hL
  have f0 := Lib.frozen_of_heap hL
  have hgt : (N : Int) < len := by omega
  go_wp2_with fail
  refine (K.read w r g d o N cap rest cur T N (by unfold Hid; omega) h hne hN0 hd hdr hdg (by omega)).mono ?_
  rintro e w' ⟨rfl, ⟨cur', hcur, hd1⟩, h1, E1⟩
  have hL1 := E1.get hL (by omega)
  clear c0 f0
  have c0 := Lib.cell_of_heap hL1
  have f0 := Lib.frozen_of_heap hL1
  go_wp2
  go_ret2
  have hL2 := heap_set hL1 (i := 1) (.int .i64 0)
  have E2 : Ext (fun b => b = r ∨ b = d ∨ b = L) w (w'.setCell ⟨L, 1, none⟩ (.int .i64 0)) := (E1.mono (fun i _ h => by omega)).setCell (fun _ => .inr (.inr rfl)) _
  have E3 : Ext (fun b => b = L) w' (w'.setCell ⟨L, 1, none⟩ (.int .i64 0)) := (Ext.refl (fun b => b = L) w').setCell (p := ⟨L, 1, none⟩) (fun _ => rfl) _
  exact ⟨rfl, ⟨cur', hcur, heap_set_ne hd1 (Ne.symm hLd)⟩, hL2, h1.ext E3 (Ne.symm hLr) (Ne.symm hLg), E2⟩

/-- At its end a LimitedReader says io.EOF. -/
theorem limited_end (w : World) (L : Nat) (x : Value) (p : Value) (eof : Value) (hL : w.heap[L]? = some (.cells #[x, .int .i64 0] 362)) (hE : w.cell? ⟨1, 0, none⟩ = some eof) (_he : eof.oneCell' = true) :
    Calls Tryz.prog 273 #[.pointer (some ⟨L, 0, none⟩), p] w fun e w' => e = .returned (.tuple #[.int .i64 0, eof]) ∧ ∃ n, w' = w.drewN n := by
  have c0 := Lib.cell_of_heap hL
  go_enter Tryz.func273, Tryz.ntmps273
  go_wp2_with fail
  go_quiet (fail)
  go_wp2
  go_ret2
  exact ⟨rfl, _, rfl⟩

end Go.Proofs.YtocjfcgailkfjaaGreatDoor
end

section
namespace Go.Proofs.YtocjfcgailkfjaaGreatDoor
open Go.RowKit

set_option maxRecDepth 100000 in
set_option maxHeartbeats 400000 in
theorem readAtLeast1 (w : World) (k : Bool) (r g d : Nat) (x : UInt8) (rest : List UInt8) (T : TypeId) (y : Value) (h : IsRd k w r g (x :: rest)) (hd : w.heap[d]? = some (.cells #[y] T (0, 0))) (hdr : d ≠ r) (hdg : d ≠ g) :
    Calls Tryz.prog 180 #[.iface (rdT k) (.pointer (some ⟨r, 0, none⟩)), .slice (some ⟨d, 0, none⟩) 1 1, .int .i64 1] w fun e w' => e = .returned (.tuple #[.int .i64 1, .nilIface]) ∧
      w'.heap[d]? = some (.cells #[.int .u8 x.toNat] T (0, 0)) ∧ IsRd k w' r g rest ∧ Ext (fun b => b = r ∨ b = d) w w' := by
  obtain ⟨f, K⟩ := rdKind k
  generalize rdT k = t at *
  have hm := K.method
  have ha := K.ahead
  have hent := K.enters
  have hmf : ∀ (fn : Fn) (first cap : Array Value) (w : World), (Instr.makeFunc fn first cap).run Tryz.prog w = .ok (.func fn first cap) w := fun _ _ _ _ => rfl
  go_enter Tryz.func180, Tryz.ntmps180
  go_wp2_with fail
  refine wp_loop_rounds 2 ?_
  simp only [rounds_succ]
  go_wp2_with fail
  clear ha
  have ha := K.ahead
  go_region_with ((refine (K.read w.drew r g d 0 1 1 (x :: rest) #[y] T 1 (by unfold Hid; simp) h (by simp) (by omega) hd hdr hdg (by simp)).mono ?_; rintro e w' ⟨rfl, ⟨cur', hcur, hd1⟩, h1, E1⟩))
  have hc : cur' = #[.int .u8 x.toNat] := by
    have h0 := hcur.inn 0 x (by simp)
    have hs := hcur.size
    apply Array.ext_getElem?
    intro i
    rcases i with _ | i
    · simpa using h0
    · rw [Array.getElem?_eq_none (by simp at hs; omega), Array.getElem?_eq_none (by simp)]
  have hd2 : w'.heap[d]? = some (.cells #[.int .u8 x.toNat] T (0, 0)) := hc ▸ hd1
  clear hc hcur hd1 cur'
  go_step
  go_step
  go_wp2_with fail
  rw [rounds_succ]
  go_wp2_with fail
  go_ret2
  exact ⟨rfl, hd2, h1, (Ext.refl _ w).drew.trans E1⟩

set_option maxRecDepth 100000 in
set_option maxHeartbeats 400000 in
theorem readFull1 (w : World) (k : Bool) (r g d : Nat) (x : UInt8) (rest : List UInt8) (T : TypeId) (y : Value) (h : IsRd k w r g (x :: rest)) (hd : w.heap[d]? = some (.cells #[y] T (0, 0))) (hdr : d ≠ r) (hdg : d ≠ g) :
    Calls Tryz.prog 175 #[.iface (rdT k) (.pointer (some ⟨r, 0, none⟩)), .slice (some ⟨d, 0, none⟩) 1 1] w fun e w' => e = .returned (.tuple #[.int .i64 1, .nilIface]) ∧
      w'.heap[d]? = some (.cells #[.int .u8 x.toNat] T (0, 0)) ∧ IsRd k w' r g rest ∧ Ext (fun b => b = r ∨ b = d) w w' := by
  go_enter Tryz.func175, Tryz.ntmps175
  go_wp2_with fail
  refine (readAtLeast1 w k r g d x rest T y h hd hdr hdg).mono ?_
  rintro e w' ⟨rfl, hd1, h1, E1⟩
  go_wp2_with fail
  go_ret2
  exact ⟨rfl, hd1, h1, E1⟩

set_option maxRecDepth 100000 in
set_option maxHeartbeats 400000 in
theorem readByte_any (w : World) (k : Bool) (r g : Nat) (x : UInt8) (rest : List UInt8) (h : IsRd k w r g (x :: rest)) :
    Calls Tryz.prog 170 #[.iface (rdT k) (.pointer (some ⟨r, 0, none⟩))] w fun e w' => e = .returned (.tuple #[.int .u8 x.toNat, .nilIface]) ∧ IsRd k w' r g rest ∧ Ext (fun b => b = r) w w' := by
  obtain ⟨hr, hg, hgr⟩ := h.lt
  have hmk : ∀ w, (Instr.makeSlice 26 (.int .i64 1) (.int .i64 1)).run Tryz.prog w = .ok (.slice (some ⟨w.heap.size, 0, none⟩) 1 1) (w.alloc (.cells #[.int .u8 0] 5)) := fun _ => by kernel_rfl
  go_enter Tryz.func170, Tryz.ntmps170
  go_wp2_with fail
  refine (readFull1 _ k r g w.heap.size x rest 5 (.int .u8 0) (h.ext ((Ext.refl none_ w).alloc _) (fun h => h) (fun h => h)) (heap_new w _) (by omega) (by omega)).mono ?_
  rintro e w' ⟨rfl, hd1, h1, E1⟩
  have c0 := Lib.cell_of_heap hd1
  go_wp2_with fail
  go_ret2
  exact ⟨rfl, h1, ((Ext.refl (fun b => b = r) w).alloc _).trans' E1 (fun i hi h => by omega)⟩

end Go.Proofs.YtocjfcgailkfjaaGreatDoor
end

section
namespace Go.Proofs.YtocjfcgailkfjaaGreatDoor
open Go.RowKit

/-- n zero bytes. -/
def zbytes (n : Nat) : Array Value := madeCells #[.int .u8 0] n
theorem zbytes_size (n : Nat) : (zbytes n).size = n := size_madeCells _ _

theorem make_bytes (l c : Nat) (h : l ≤ c) (hc : c ≤ 140737488355328) (w : World) :
    (Instr.makeSlice 26 (.int .i64 (l : Int)) (.int .i64 (c : Int))).run Tryz.prog w = .ok (.slice (some ⟨w.heap.size, 0, none⟩) l c) (w.alloc (.cells (zbytes c) 5)) := by
  have hinfo : (Tryz.prog.info? 5).map (fun i => (i.zero, i.size, i.bytes)) = some (some (.int .u8 0), 1, 1) := by kernel_rfl
  obtain ⟨i, hi, hzz⟩ := Option.map_eq_some_iff.1 hinfo
  simp only [Prod.mk.injEq] at hzz
  obtain ⟨hz, hs, hb⟩ := hzz
  have hr := run_make (P := Tryz.prog) w 26 5 i (.int .u8 0) Tryz.underlying26 hi hz .i64 .i64 l c (by omega) (by omega) (by rw [hb]; omega) (by omega)
  simp only [Int.toNat_natCast, hs, Nat.mul_one] at hr
  exact hr

theorem eql_err (w : World) (a : Addr) : (binOp .eql 92 (.iface 310 (.pointer (some a))) (.iface 310 (.pointer (some a)))).run Tryz.prog w = .ok (.bool true) w := by
  have h1 : (Tryz.prog.info? 310).map (·.comparable) = some true := by kernel_rfl
  have h2 : (Tryz.prog.info? 312).map (·.size) = some 1 := by kernel_rfl
  cases hi : Tryz.prog.info? 310 with
  | none => simp [hi] at h1
  | some i =>
    cases hj : Tryz.prog.info? 312 with
    | none => simp [hj] at h2
    | some j =>
      have hcc : i.comparable = true := by simpa [hi] using h1
      have hss : j.size = 1 := by simpa [hj] using h2
      have h : ∀ d : Nat, (Op.equalIn (d + 2) 92 (.iface 310 (.pointer (some a))) (.iface 310 (.pointer (some a)))).run Tryz.prog w = .ok true w := fun d => by
        simp [Op.equalIn, run_underlying Tryz.underlying92, run_underlying Tryz.underlying310, typeInfo, sizeOf, hi, hj, hcc, hss, sameAddr]
      simp only [binOp]
      simp [Op.equal, Op.maxDepth, h 9998]

set_option maxRecDepth 100000 in
set_option maxHeartbeats 800000 in
theorem readAll_any (w : World) (k : Bool) (L r g N : Nat) (rest : List UInt8) (ea : Addr) (h : IsRd k w r g rest) (hN0 : 0 < N) (hN : N ≤ rest.length) (hNl : N ≤ 480)
    (hL : w.heap[L]? = some (.cells #[.iface (rdT k) (.pointer (some ⟨r, 0, none⟩)), .int .i64 (N : Int)] 362)) (hLr : L ≠ r) (hLg : L ≠ g) (hE : w.cell? ⟨1, 0, none⟩ = some (.iface 310 (.pointer (some ea)))) (h1r : r ≠ 1) (h1L : L ≠ 1) :
    Calls Tryz.prog 137 #[.iface 360 (.pointer (some ⟨L, 0, none⟩))] w fun e w' => ∃ d cur, e = .returned (.tuple #[.slice (some ⟨d, 0, none⟩) N 512, .nilIface]) ∧ w.heap.size ≤ d ∧
      w'.heap[d]? = some (.cells cur 5 (0, 0)) ∧ cur.size = 512 ∧ BytesAt w' d 0 (rest.take N) ∧ IsRd k w' r g (rest.drop N) ∧ Ext (fun b => b = r ∨ b = L) w w' := by
  obtain ⟨hr0, hg0, hgr⟩ := h.lt
  have hL0 := lt_of_block hL
  have h10 : 1 < w.heap.size := by have := World.block_lt_of_cell? w ⟨1, 0, none⟩ hE; simpa using this
  have hm := method_limited
  have ha := ahead_limited
  have hmf : ∀ (fn : Fn) (first cap : Array Value) (w : World), (Instr.makeFunc fn first cap).run Tryz.prog w = .ok (.func fn first cap) w := fun _ _ _ _ => rfl
  have hmk1 : ∀ w, (Instr.makeSlice 26 (.int .i64 0) (.int .i64 512)).run Tryz.prog w = .ok (.slice (some ⟨w.heap.size, 0, none⟩) 0 512) (w.alloc (.cells (zbytes 512) 5)) := fun w => make_bytes 0 512 (by omega) (by omega) w
  have hmk2 : ∀ w, (Instr.makeSlice 104 (.int .i64 0) (.int .i64 4)).run Tryz.prog w = .ok (.slice (some ⟨w.heap.size, 0, none⟩) 0 4) (w.alloc (.cells #[.slice none 0 0, .slice none 0 0, .slice none 0 0, .slice none 0 0] 26)) := fun _ => by kernel_rfl
  have hq := eql_err
  have hN5 : ¬ 512 = N := by omega
  have hN6 : N ≤ 512 := by omega
  go_enter Tryz.func137, Tryz.ntmps137
  go_wp2_with fail
  clear hmk1 hmk2
  refine cutW (fun W => W.heap[w.heap.size]? = some (.cells (zbytes 512) 5 (0, 0)) ∧ Ext none_ w W) ⟨heap_old (heap_new w _), ((Ext.refl none_ w).alloc _).alloc _⟩ ?_
  rintro W ⟨hd, E1⟩
  have h1 := h.ext E1 (fun h => h) (fun h => h)
  have hL1 := E1.get hL (fun h => h)
  have hE1 := (E1.cell h10 (fun h => h)).trans hE
  have hsz := E1.size
  obtain ⟨d, hdd⟩ : ∃ d, d = w.heap.size := ⟨_, rfl⟩
  have hD := Lib.hid hdd
  rw [← hdd] at hd
  simp only [← hdd]
  have hdr : d ≠ r := by omega
  have hdg : d ≠ g := by omega
  have hdL : L ≠ d := by omega
  clear hdd
  refine wp_loop_rounds 2 ?_
  rw [rounds_succ]
  go_wp2_with fail
  go_region_with ((refine (limited_read W.drew k L r g d 0 512 512 N rest (zbytes 512) 5 h1 hN0 hN (by omega) (by omega) hd hL1 hLr hLg hdL hdr hdg (by rw [zbytes_size]; omega) (by omega)).mono ?_; rintro e w' ⟨rfl, ⟨cur', hcur, hd2⟩, hL2, h2, E2⟩))
  have E2' : Ext (fun b => b = r ∨ b = d ∨ b = L) W w' := (Ext.refl _ W).drew.trans E2
  have hE2 := (E2'.cell (p := ⟨1, 0, none⟩) (by show 1 < _; omega) (by show ¬ (1 = r ∨ 1 = d ∨ 1 = L); have := hD.out; omega)).trans hE1
  have hB2 : BytesAt w' d 0 (rest.take N) := ⟨cur', 5, (0, 0), hd2, hcur.inn⟩
  have hsz2 : cur'.size = 512 := by rw [hcur.size, zbytes_size]
  have E3 : Ext (fun b => b = r ∨ b = L) w w' := (E1.mono (S' := fun b => b = r ∨ b = L) (fun _ _ h => h.elim)).trans' E2' (fun i hi h => by have := hD.out; omega)
  clear E2 hcur hm ha hE1 hL1 h1
  go_step
  go_step
  go_wp2_with fail
  rw [rounds_succ]
  have hm := method_limited
  have ha := ahead_limited
  go_wp2_with fail
  go_region_with ((refine (limited_end w'.drew L _ _ (.iface 310 (.pointer (some ea))) hL2 hE2 rfl).mono ?_; rintro e w2 ⟨rfl, n, rfl⟩))
  go_step
  go_step
  refine cutW (fun W => W.cell? ⟨1, 0, none⟩ = some (.iface 310 (.pointer (some ea))) ∧ W.heap[d]? = some (.cells cur' 5 (0, 0)) ∧ BytesAt W d 0 (rest.take N) ∧ IsRd k W r g (rest.drop N) ∧ Ext (fun b => b = r ∨ b = L) w W)
    ⟨hE2, hd2, hB2, h2, ⟨E3.os, E3.tape, E3.output, E3.size, E3.block⟩⟩ ?_
  clear hE2 hd2 hB2 h2 E3 E2' hL2
  rintro W2 ⟨hE3, hd3, hB3, h3, E4⟩
  go_wp2_with fail
  go_ret2
  exact ⟨d, cur', rfl, by have := hD.out; omega, hd3, hsz2, hB3, h3, E4⟩

end Go.Proofs.YtocjfcgailkfjaaGreatDoor
end

section
namespace Go.Proofs.YtocjfcgailkfjaaGreatDoor
open Go.RowKit

theorem and192 : ∀ n : Fin 256, bits .and .u8 ((n.val : Nat) : Int) 192 = ((n.val / 64 * 64 : Nat) : Int) := by decide +kernel
theorem and32 : ∀ n : Fin 256, bits .and .u8 ((n.val : Nat) : Int) 32 = ((n.val / 32 % 2 * 32 : Nat) : Int) := by decide +kernel
theorem and31 : ∀ n : Fin 256, bits .and .u64 ((n.val : Nat) : Int) 31 = ((n.val % 32 : Nat) : Int) := by decide +kernel
theorem wrapB : ∀ n : Fin 256, IntKind.u64.wrap ((n.val : Nat) : Int) = ((n.val : Nat) : Int) := by decide +kernel

set_option maxRecDepth 100000 in
set_option maxHeartbeats 400000 in
theorem readIdentifier_any (w : World) (k : Bool) (r g : Nat) (x : UInt8) (rest : List UInt8) (cc bt tag : Nat) (h : IsRd k w r g (x :: rest)) (hx : Hid (x.toNat = cc + bt + tag)) (hc : Hid (cc % 64 = 0)) (hb : Hid (bt = 0 ∨ bt = 32)) (ht : tag < 31) :
    Calls Tryz.prog 155 #[.iface (rdT k) (.pointer (some ⟨r, 0, none⟩))] w fun e w' => e = .returned (.tuple #[.agg #[.int .u8 cc, .int .u8 bt, .int .u64 tag], .int .i64 1, .nilIface]) ∧
      IsRd k w' r g rest ∧ Ext (fun b => b = r) w w' := by
  obtain ⟨hr, hg, hgr⟩ := h.lt
  go_enter Tryz.func155, Tryz.ntmps155
  go_wp2_with fail
  refine cutC (fun W => W.heap[w.heap.size]? = some (.cells #[.int .u8 0, .int .u8 0, .int .u64 0] 216 (0, 0)) ∧ W.heap[w.heap.size + 1]? = some (.cells #[.int .u8 0, .int .u8 0, .int .u64 0] 216 (0, 0)) ∧ Ext none_ w W) (two_new w _ _) ?_
  rintro W ⟨ha, hb, E1⟩
  refine (readByte_any W k r g x rest (h.ext E1 (fun h => h) (fun h => h))).mono ?_
  rintro e w' ⟨rfl, h1, E2⟩
  have ha2 := E2.get ha (by omega)
  have hb2 := E2.get hb (by omega)
  have h192 : bits .and .u8 (x.toNat : Int) 192 = (cc : Int) := by
    have h1 := hx.out; have h2 := hc.out; have h3 : bt = 0 ∨ bt = 32 := by assumption
    rw [and192 ⟨x.toNat, x.toNat_lt⟩]; congr 1; show x.toNat / 64 * 64 = cc; omega
  have h32 : bits .and .u8 (x.toNat : Int) 32 = (bt : Int) := by
    have h1 := hx.out; have h2 := hc.out; have h3 : bt = 0 ∨ bt = 32 := by assumption
    rw [and32 ⟨x.toNat, x.toNat_lt⟩]; congr 1; show x.toNat / 32 % 2 * 32 = bt; omega
  have h31 : bits .and .u64 (x.toNat : Int) 31 = (tag : Int) := by
    have h1 := hx.out; have h2 := hc.out; have h3 : bt = 0 ∨ bt = 32 := by assumption
    rw [and31 ⟨x.toNat, x.toNat_lt⟩]; congr 1; show x.toNat % 32 = tag; omega
  have hwr : IntKind.u64.wrap (x.toNat : Int) = (x.toNat : Int) := wrapB ⟨x.toNat, x.toNat_lt⟩
  generalize (x.toNat : Int) = n at *
  have ca := Lib.cell_of_heap ha2
  have cb := Lib.cell_of_heap hb2
  have fa := Lib.frozen_of_heap ha2
  have fb := Lib.frozen_of_heap hb2
  clear ha hb
  go_wp2_with fail
  refine bodyPost_ret (v := .tuple #[.agg #[.int .u8 cc, .int .u8 bt, .int .u64 tag], .int .i64 1, .nilIface]) (by simp [results, Tryz.results155, go_sem, ca, fa]) rfl ⟨rfl, ?_, ?_⟩
  · refine h1.ext (S := fun b => w.heap.size ≤ b) ?_ (by omega) (by omega)
    repeat refine Ext.setAt ?_ (.inr (by omega)) _
    exact Ext.refl _ _
  · repeat refine Ext.setAt ?_ (.inl (by omega)) _
    exact E1.zero.trans E2

end Go.Proofs.YtocjfcgailkfjaaGreatDoor
end
