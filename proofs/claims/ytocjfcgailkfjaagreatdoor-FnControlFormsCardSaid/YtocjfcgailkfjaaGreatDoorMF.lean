/- berAwake: the integer 7 is read. spec.BerTag below 31; spec.BerLength. -/
import Derived.Test.YtocjfcgailkfjaaGreatDoorME3
import Derived.Deep.DeepCutAuto
import Derived.Deep.DrawnRows
import Derived.BigRegion
import Derived.Lib.BufferRead

set_option linter.unusedVariables false
set_option linter.unusedSimpArgs false
set_option linter.unusedSectionVars false

section
namespace Go.Proofs.YtocjfcgailkfjaaGreatDoor
open Go.RowKit

attribute [local go_sem ↓] Go.wp_at_zero Go.wp_at_succ

theorem conv_string (w : World) (a : Option Addr) (c : Nat) (l : List UInt8) (h : l = [] ∨ ∃ g o, a = some ⟨g, o, none⟩ ∧ BytesAt w g o l) : (convert 26 9 (.slice a l.length c)).run Tryz.prog w = .ok (.string (strOf l)) w := by
  cases a with
  | none =>
    rcases h with rfl | ⟨g, o, e, _⟩
    · exact Lib.run_convert_nil_bytes w 26 9 5 c Tryz.underlying26 Tryz.underlying5 Tryz.underlying9
    · cases e
  | some a =>
    refine run_convert_bytes_back w 26 9 5 a c l Tryz.underlying26 Tryz.underlying5 Tryz.underlying9 fun j hj => ?_
    rcases h with rfl | ⟨g, o, e, hB⟩
    · simp at hj
    · cases e
      rw [Lib.addr_add]; exact hB.cell (List.getElem?_eq_getElem hj)

set_option maxHeartbeats 800000 in
set_option maxRecDepth 100000 in
theorem back_seven (w : World) (p d : Nat) (val bv : Value) (ds : ByteArray) (row : Option Nat) (g c : Nat) (h : PkBlk w p 0 0 2 val bv d (.slice (some ⟨g, 0, none⟩) 0 c) ds) (hd : BufAt w d row [7]) :
    Calls Tryz.prog 62 #[.pointer (some ⟨p, 0, none⟩)] w fun e w' => e = .returned (.agg #[.int .u8 0, .bool false, .int .u64 2, .string (strOf [7]), .slice none 0 0]) ∧ Ext none_ w w' := by
  have c0 := Lib.cell_of_heap h
  have hpl := lt_of_block h
  go_enter Tryz.func62, Tryz.ntmps62
  go_wp2_with fail
  go_region
  go_wp2_with fail
  have hA := two_new w (.cells #[.int .u8 0, .bool false, .int .u64 0, .string ⟨#[]⟩, .slice none 0 0] 84 (0, 0)) (.cells #[.int .u8 0, .bool false, .int .u64 2, .string ⟨#[]⟩, .slice none 0 0] 84 (0, 0))
  refine cutC (fun W => W.heap[w.heap.size]? = some (.cells #[.int .u8 0, .bool false, .int .u64 0, .string ⟨#[]⟩, .slice none 0 0] 84 (0, 0)) ∧ W.heap[w.heap.size + 1]? = some (.cells #[.int .u8 0, .bool false, .int .u64 2, .string ⟨#[]⟩, .slice none 0 0] 84 (0, 0)) ∧ Ext none_ w W) ⟨hA.1, hA.2.1, hA.2.2.drew⟩ ?_
  clear hA
  rintro W ⟨h1, h2, E1⟩
  refine (bufBytes_any W d row [7] (hd.ext E1 (fun h => h) (fun _ _ h => h))).mono ?_
  rintro e w2 ⟨⟨v, rfl, hv⟩, hs⟩
  obtain ⟨a, c2, rfl, hB⟩ := hv
  have hcv := conv_string w2 a c2 [7] (hB.imp id (fun ⟨g, e, hB, _⟩ => ⟨g, 0, e, hB.of_heap (by rw [hs.heap])⟩))
  have hcv' : (convert 26 9 (.slice a 1 c2)).run Tryz.prog w2 = .ok (.string (strOf [7])) w2 := hcv
  have E2 : Ext none_ W w2 := hs.ext
  have k1 := hs.get h1
  have k2 := hs.get h2
  have k0 := (E1.trans E2).get h (fun h => h)
  clear c0 hcv hB h1 h2
  have c0 := Lib.cell_of_heap k0
  have c1 := Lib.cell_of_heap k1
  have c2' := Lib.cell_of_heap k2
  have f1 := Lib.frozen_of_heap k1
  have f2 := Lib.frozen_of_heap k2
  go_wp2_with fail
  have k3 := heap_set k2 (i := 3) (.string (strOf [7]))
  have k4 : (w2.setCell ⟨w.heap.size + 1, 3, none⟩ (.string (strOf [7]))).heap[w.heap.size]? = _ := heap_set_ne k1 (by omega)
  have E3 := ((E1.trans E2)).setAt (b := w.heap.size + 1) (i := 3) (.inl (by omega)) (.string (strOf [7]))
  clear c0 c1 c2' f1 f2
  refine cutW (fun W => W.heap[w.heap.size]? = some (.cells #[.int .u8 0, .bool false, .int .u64 0, .string ⟨#[]⟩, .slice none 0 0] 84 (0, 0)) ∧ W.heap[w.heap.size + 1]? = some (.cells #[.int .u8 0, .bool false, .int .u64 2, .string (strOf [7]), .slice none 0 0] 84 (0, 0)) ∧ Ext none_ w W) ⟨k4, k3, E3⟩ ?_
  clear k3 k4 E3 k0 k1 k2 E2 E1 hs
  rintro W3 ⟨k1, k2, E3⟩
  have c1 := Lib.cell_of_heap k1
  have c2' := Lib.cell_of_heap k2
  have f1 := Lib.frozen_of_heap k1
  have f2 := Lib.frozen_of_heap k2
  refine wp_loop_rounds 1 ?_
  rw [rounds_succ]
  go_wp2_with fail
  have K := heap_set (heap_set (heap_set (heap_set (heap_set k1 (i := 0) (.int .u8 0)) (i := 1) (.bool false)) (i := 2) (.int .u64 2)) (i := 3) (.string (strOf [7]))) (i := 4) (.slice none 0 0)
  have ck := Lib.cell_of_heap K
  refine bodyPost_ret (v := .agg #[.int .u8 0, .bool false, .int .u64 2, .string (strOf [7]), .slice none 0 0]) (by simp [results, Tryz.results62, go_sem, ck]) rfl ⟨rfl, ?_⟩
  repeat refine Ext.setAt ?_ (.inl (by omega)) _
  exact E3

set_option maxHeartbeats 400000 in
set_option maxRecDepth 100000 in
theorem berRead_seven (w : World) (ea : Addr) (hE : w.cell? ⟨1, 0, none⟩ = some (.iface 310 (.pointer (some ea)))) :
    Calls Tryz.prog 33 #[.string ⟨#[2, 1, 7]⟩] w fun e w' => e = .returned (.tuple #[.agg #[.int .u8 0, .bool false, .int .u64 2, .string (strOf [7]), .slice none 0 0], .int .i64 3, .string ⟨#[]⟩]) ∧ Ext none_ w w' := by
  have EA := (Ext.refl none_ w).alloc (.cells #[.int .u8 0, .bool false, .int .u64 0, .string ⟨#[]⟩, .slice none 0 0] 84)
  obtain ⟨c, W1, hcv, hB, hlc, hcm, E1, hsz⟩ := conv_bytes (w.alloc (.cells #[.int .u8 0, .bool false, .int .u64 0, .string ⟨#[]⟩, .slice none 0 0] 84)) [2, 1, 7] (by simp)
  have hcv' : (convert 9 26 (.string ⟨#[2, 1, 7]⟩)).run Tryz.prog (w.alloc (.cells #[.int .u8 0, .bool false, .int .u64 0, .string ⟨#[]⟩, .slice none 0 0] 84)) = .ok (.slice (some ⟨w.heap.size + 1, 0, none⟩) 3 c) W1 := by
    have := hcv
    rw [World.size_alloc] at this
    exact this
  rw [World.size_alloc] at hB hsz
  have h10 : 1 < w.heap.size := by have := World.block_lt_of_cell? w ⟨1, 0, none⟩ hE; simpa using this
  have hE1 : W1.cell? ⟨1, 0, none⟩ = some (.iface 310 (.pointer (some ea))) := by rw [(EA.trans E1).cell (p := ⟨1, 0, none⟩) h10 (fun h => h)]; exact hE
  have ho := E1.get (heap_new w (.cells #[.int .u8 0, .bool false, .int .u64 0, .string ⟨#[]⟩, .slice none 0 0] 84)) (fun h => h)
  have HO := Lib.hid ho
  have HB := Lib.hid hB
  have HE := Lib.hid hE1
  have HS := Lib.hid hsz
  have E01 := EA.trans E1
  clear hB hE1 hE hsz hcv ho EA E1
  go_enter Tryz.func33, Tryz.ntmps33
  go_wp2_with fail
  refine (newReader_any W1 (some ⟨w.heap.size + 1, 0, none⟩) 3 c).mono ?_
  rintro e w2 ⟨rfl, rfl⟩
  have E2 := (Ext.refl none_ W1).alloc (.cells #[.slice (some ⟨w.heap.size + 1, 0, none⟩) 3 c, .int .i64 0, .int .i64 (-1)] 282)
  have hrd := rd_new W1 (w.heap.size + 1) 3 c [2, 1, 7] HB.out rfl hlc hcm
  have hs := HS.out
  have hfine : (T.prim 0 2 [7]).fine := by unfold T.fine; exact ⟨by omega, by omega, by simp, fun _ => .inl ⟨by omega, by simp, by simp⟩⟩
  have hcall := readPacket_top (W1.alloc (.cells #[.slice (some ⟨w.heap.size + 1, 0, none⟩) 3 c, .int .i64 0, .int .i64 (-1)] 282)) false W1.heap.size (w.heap.size + 1) ea (.prim 0 2 [7]) [2, 1, 7] [] 3 rfl (by omega) (by omega) (by simp [T.deep]) hfine (.prim 0 2 [7] [1] 2 rfl (.short 1 (by decide))) hrd (by rw [E2.cell (p := ⟨1, 0, none⟩) (by show 1 < W1.heap.size; omega) (fun h => h)]; exact HE.out)
  have HC := Lib.hid hcall
  clear hcall hrd hs
  go_wp2_with fail
  refine HC.out.mono ?_
  rintro e w3 ⟨p, rfl, hpk, ⟨n', c', i, x, hr, hgr, hin, hnc, hc2, hB3, hx⟩, E3⟩
  unfold PkAt at hpk
  obtain ⟨val, ⟨d, row, bv, g2, ch, ds, hp, hd, ⟨cap, cur, rfl, hch⟩, hrest⟩, -⟩ := hpk
  have hsp : w.heap.size + 1 + 1 + 1 ≤ p := by have := hrest.2.1; simp at this; have := HS.out; omega
  clear hch hrest
  go_wp2_with fail
  refine (back_seven w3 p d val bv ds row g2 cap hp hd).mono ?_
  rintro e w4 ⟨rfl, E4⟩
  have hr4 := E4.get hr (fun h => h)
  clear hp hd hr hB3
  go_wp2_with fail
  refine (readerLen_end w4 W1.heap.size _ n' c' i x hr4 (by simp at hin; omega) (by simp at hin; omega)).mono ?_
  rintro e w5 ⟨rfl, hs5⟩
  have hs := HS.out
  have ho5 := (((((E2.get HO.out (fun h => h))))))
  have ho6 := hs5.get (E4.get (E3.get ho5 (by omega)) (fun h => h))
  clear hr4 hin ho5
  have co := Lib.cell_of_heap ho6
  have fo := Lib.frozen_of_heap ho6
  go_wp2_with fail
  have K := heap_set (heap_set (heap_set (heap_set (heap_set ho6 (i := 0) (.int .u8 0)) (i := 1) (.bool false)) (i := 2) (.int .u64 2)) (i := 3) (.string (strOf [7]))) (i := 4) (.slice none 0 0)
  have ck := Lib.cell_of_heap K
  refine bodyPost_ret (v := .tuple #[.agg #[.int .u8 0, .bool false, .int .u64 2, .string (strOf [7]), .slice none 0 0], .int .i64 3, .string ⟨#[]⟩]) (by simp [results, Tryz.results33, go_sem, ck]) rfl ⟨rfl, ?_⟩
  repeat refine Ext.setAt ?_ (.inl (by omega)) _
  exact (((E01.trans E2).trans' E3 fun b hb h => by omega).trans E4).trans hs5.ext

set_option maxHeartbeats 400000 in
set_option maxRecDepth 100000 in
theorem berAwake_any (w : World) (ea : Addr) (hE : w.cell? ⟨1, 0, none⟩ = some (.iface 310 (.pointer (some ea)))) :
    Calls Tryz.prog 12 #[] w fun e w' => e = .returned (.bool true) ∧ Ext none_ w w' := by
  have HC := Lib.hid (berRead_seven w ea hE)
  clear hE
  go_enter Tryz.func12, Tryz.ntmps12
  go_wp2_with fail
  refine HC.out.mono ?_
  rintro e w1 ⟨rfl, E1⟩
  have hst : strOf [7] = ⟨#[7]⟩ := rfl
  rw [hst]
  go_wp2_with fail
  go_outline
  go_ret
  exact ⟨rfl, E1.alloc _⟩

end Go.Proofs.YtocjfcgailkfjaaGreatDoor
end

section
namespace Go.Proofs.YtocjfcgailkfjaaGreatDoor
open Go.RowKit

theorem strOf_append (a b : List UInt8) : strOf a ++ strOf b = strOf (a ++ b) := by
  apply ByteArray.ext
  simp [strOf, ByteArray.data_append]

theorem one_string (W : World) (n : Nat) (x : UInt8) (hx : x.toNat = n) : (convert 26 9 (.slice (some ⟨W.heap.size, 0, none⟩) 1 1)).run Tryz.prog (W.alloc (.cells #[.int .u8 n] 5)) = .ok (.string (strOf [x])) (W.alloc (.cells #[.int .u8 n] 5)) :=
  conv_string _ (some ⟨W.heap.size, 0, none⟩) 1 [x] (.inr ⟨W.heap.size, 0, rfl, one_bytes (heap_new W _) (by rw [hx])⟩)

theorem one_string1 (W : World) (o : Obj) (n : Nat) (x : UInt8) (hx : x.toNat = n) : (convert 26 9 (.slice (some ⟨W.heap.size + 1, 0, none⟩) 1 1)).run Tryz.prog ((W.alloc o).alloc (.cells #[.int .u8 n] 5)) = .ok (.string (strOf [x])) ((W.alloc o).alloc (.cells #[.int .u8 n] 5)) := by
  have := one_string (W.alloc o) n x hx
  rwa [World.size_alloc] at this

/-- A value's cells. -/
def berV (cls : Nat) (built : Bool) (tag : Nat) (data : List UInt8) (items : Value) : Value := .agg #[.int .u8 cls, .bool built, .int .u64 tag, .string (strOf data), items]

theorem shl6 : ∀ n : Fin 4, IntKind.u8.wrap (((n.val : Nat) : Int) * 64) = ((n.val * 64 : Nat) : Int) := by decide +kernel

set_option maxHeartbeats 400000 in
set_option maxRecDepth 100000 in
theorem berTag_any (w : World) (cls tag : Nat) (built : Bool) (data : ByteArray) (sa : Option Addr) (sn sc : Nat) (hc : cls < 4) (ht : tag < 31) :
    Calls Tryz.prog 109 #[.agg #[.int .u8 cls, .bool built, .int .u64 tag, .string data, .slice sa sn sc]] w fun e w' => e = .returned (.string (strOf [UInt8.ofNat (cls * 64 + (if built then 32 else 0) + tag)])) ∧ Ext none_ w w' := by
  have h1 := shl6 ⟨cls, hc⟩
  have h2 := wrap8 ⟨tag, by omega⟩
  simp only at h1 h2
  cases built
  · have hor3 : bits .or .u8 ((cls * 64 : Nat) : Int) (tag : Int) = ((cls * 64 + tag : Nat) : Int) := by
      have := or_tag ⟨cls * 2, by omega⟩ ⟨tag, by omega⟩
      simp only at this
      rw [show (cls * 2) * 32 = cls * 64 by omega] at this
      exact this
    have hstr := fun W o => one_string1 W o (cls * 64 + tag) (UInt8.ofNat (cls * 64 + 0 + tag)) (by rw [UInt8.toNat_ofNat_of_lt' (show _ < 256 by omega)]; omega)
    simp only [Bool.false_eq_true, if_false]
    generalize UInt8.ofNat (cls * 64 + 0 + tag) = x at *
    generalize ((cls * 64 + tag : Nat) : Int) = z at *
    generalize ((cls * 64 : Nat) : Int) = y at *
    go_enter Tryz.func109, Tryz.ntmps109
    go_wp2_with fail
    go_ret
    exact ⟨rfl, ((Ext.refl none_ w).alloc _).alloc _⟩
  · have hor3 : bits .or .u8 ((cls * 64 + 32 : Nat) : Int) (tag : Int) = ((cls * 64 + 32 + tag : Nat) : Int) := by
      have := or_tag ⟨cls * 2 + 1, by omega⟩ ⟨tag, by omega⟩
      simp only at this
      rw [show (cls * 2 + 1) * 32 = cls * 64 + 32 by omega] at this
      exact this
    have hor2 : bits .or .u8 ((cls * 64 : Nat) : Int) 32 = ((cls * 64 + 32 : Nat) : Int) := or_32 ⟨cls, hc⟩
    have hstr := fun W o => one_string1 W o (cls * 64 + 32 + tag) (UInt8.ofNat (cls * 64 + 32 + tag)) (by rw [UInt8.toNat_ofNat_of_lt' (show _ < 256 by omega)])
    simp only [if_true]
    generalize UInt8.ofNat (cls * 64 + 32 + tag) = x at *
    generalize ((cls * 64 + 32 + tag : Nat) : Int) = z at *
    generalize ((cls * 64 + 32 : Nat) : Int) = yy at *
    generalize ((cls * 64 : Nat) : Int) = y at *
    go_enter Tryz.func109, Tryz.ntmps109
    go_wp2_with fail
    go_ret
    exact ⟨rfl, ((Ext.refl none_ w).alloc _).alloc _⟩

end Go.Proofs.YtocjfcgailkfjaaGreatDoor
end
