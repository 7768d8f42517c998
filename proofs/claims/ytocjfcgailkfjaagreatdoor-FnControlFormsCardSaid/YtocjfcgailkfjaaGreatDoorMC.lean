/- bytes.Buffer.Bytes; encodeIdentifier at a tag below 31. encodeLength below 65536, with its exact bytes. Packet.Bytes: the packet's exact bytes. A packet's list of children, and append of one. Packet.AppendChild. -/
import Derived.Test.YtocjfcgailkfjaaGreatDoorMB3
import Derived.Test.YtocjfcgailkfjaaGreatDoorMB2
import Derived.Deep.DeepCutAuto
import Derived.Deep.DrawnRows
import Derived.BigRegion

set_option linter.unusedVariables false
set_option linter.unusedSimpArgs false
set_option linter.unusedSectionVars false

section
namespace Go.Proofs.YtocjfcgailkfjaaGreatDoor
open Go.RowKit

/-- A slice value that holds the bytes l; 'av' are blocks that it does not lie in. -/
def SrcAt (w : World) (v : Value) (l : List UInt8) (P : Nat → Prop) : Prop :=
  ∃ a c, v = .slice a l.length c ∧ (l = [] ∨ ∃ g, a = some ⟨g, 0, none⟩ ∧ BytesAt w g 0 l ∧ P g)

set_option maxHeartbeats 400000 in
theorem bufBytes_any (w : World) (d : Nat) (row : Option Nat) (bs : List UInt8) (h : BufAt w d row bs) :
    Calls Tryz.prog 85 #[.pointer (some ⟨d, 0, none⟩)] w fun e w' => (∃ v, e = .returned v ∧ SrcAt w v bs (fun g => row = some g)) ∧ Same w w' := by
  obtain ⟨lr, ⟨rfl, rfl, h⟩ | ⟨g, cap, cur, rfl, hgd, h, hg, hcs, hlc, hc, hb⟩⟩ := h
  · have c0 := Lib.cell_of_heap h
    go_enter Tryz.func85, Tryz.ntmps85
    go_wp2
    go_quiet (fail)
    go_wp2
    go_ret
    exact ⟨⟨_, rfl, none, 0, rfl, .inl rfl⟩, Same.of _⟩
  · have c0 := Lib.cell_of_heap h
    have hB : BytesAt w g 0 bs := ⟨cur, 5, (0, 0), hg, fun j x hj => by rw [Nat.zero_add]; exact hb j x hj⟩
    have h0 : (0 : Int) ≤ (bs.length : Int) := by omega
    go_enter Tryz.func85, Tryz.ntmps85
    go_wp2
    go_quiet (fail)
    go_wp2
    go_ret
    refine ⟨⟨_, rfl, some ⟨g, 0, none⟩, cap, ?_, .inr ⟨g, rfl, hB, rfl⟩⟩, Same.of _⟩
    simp

theorem or_0 : ∀ n : Fin 256, bits .or .u8 0 ((n.val : Nat) : Int) = ((n.val : Nat) : Int) := by decide +kernel
theorem or_32 : ∀ a : Fin 4, bits .or .u8 ((a.val * 64 : Nat) : Int) ((32 : Nat) : Int) = ((a.val * 64 + 32 : Nat) : Int) := by decide +kernel
theorem or_00 : ∀ a : Fin 4, bits .or .u8 ((a.val * 64 : Nat) : Int) ((0 : Nat) : Int) = ((a.val * 64 + 0 : Nat) : Int) := by decide +kernel
theorem or_tag : ∀ (a : Fin 8) (t : Fin 32), bits .or .u8 ((a.val * 32 : Nat) : Int) ((t.val : Nat) : Int) = ((a.val * 32 + t.val : Nat) : Int) := by decide +kernel

set_option maxHeartbeats 800000 in
set_option maxRecDepth 100000 in
theorem encodeIdentifier_any (w : World) (cc bt tag : Nat) (hc : Hid (cc % 64 = 0 ∧ cc < 256)) (hb : Hid (bt = 0 ∨ bt = 32)) (ht : tag < 31) :
    Calls Tryz.prog 82 #[.agg #[.int .u8 cc, .int .u8 bt, .int .u64 tag]] w fun e w' => ∃ g, e = .returned (.slice (some ⟨g, 0, none⟩) 1 1) ∧ w.heap.size ≤ g ∧ BytesAt w' g 0 [UInt8.ofNat (cc + bt + tag)] ∧ Ext none_ w w' := by
  have hor1 : bits .or .u8 0 (cc : Int) = (cc : Int) := or_0 ⟨cc, hc.out.2⟩
  have hor2 : bits .or .u8 (cc : Int) (bt : Int) = ((cc + bt : Nat) : Int) := by
    have h1 := hc.out
    obtain ⟨a, rfl⟩ : ∃ a : Nat, cc = a * 64 := ⟨cc / 64, by omega⟩
    rcases hb.out with rfl | rfl
    · exact or_00 ⟨a, by omega⟩
    · exact or_32 ⟨a, by omega⟩
  have hor3 : bits .or .u8 ((cc + bt : Nat) : Int) (tag : Int) = ((cc + bt + tag : Nat) : Int) := by
    have h1 := hc.out
    have h2 := hb.out
    obtain ⟨a, ha⟩ : ∃ a : Nat, cc + bt = a * 32 := ⟨(cc + bt) / 32, by omega⟩
    rw [ha]
    exact or_tag ⟨a, by omega⟩ ⟨tag, by omega⟩
  have hlt : (cc + bt + tag) < 256 := by have h1 := hc.out; have h2 := hb.out; omega
  have hfin : ((cc + bt + tag : Nat) : Int) = (((UInt8.ofNat (cc + bt + tag)).toNat : Nat) : Int) := by
    rw [UInt8.toNat_ofNat_of_lt' (by simpa using hlt)]
  have Hfin := Lib.hid hfin
  clear hfin
  generalize ((cc + bt + tag : Nat) : Int) = z at *
  generalize ((cc + bt : Nat) : Int) = y at *
  go_enter Tryz.func82, Tryz.ntmps82
  go_wp2
  go_region
  go_wp2
  go_region
  go_wp2
  go_region
  go_wp2
  go_ret
  refine ⟨w.heap.size + 1, rfl, by omega, ⟨#[.int .u8 z], 5, (0, 0), ?_, ?_⟩, ((two_new w _ _).2.2).drew.drew.drew⟩
  · exact (two_new w _ _).2.1
  · intro j x hj
    match j, hj with
    | 0, hj =>
      obtain rfl := Option.some.inj hj
      rw [← Hfin.out]; rfl

end Go.Proofs.YtocjfcgailkfjaaGreatDoor
end

section
namespace Go.Proofs.YtocjfcgailkfjaaGreatDoor
open Go.RowKit

set_option maxHeartbeats 400000 in
theorem uintLen1 (w : World) (n : Nat) (hn : n < 256) :
    Calls Tryz.prog 148 #[.int .u64 n] w fun e w' => e = .returned (.int .i64 1) ∧ w' = w := by
  go_enter Tryz.func148, Tryz.ntmps148
  go_wp2_with fail
  refine wp_loop_rounds 1 ?_
  rw [rounds_succ]
  have h1 : ¬ (255 : Int) < (n : Int) := by omega
  go_wp2_with fail
  go_ret
  exact ⟨rfl, rfl⟩

set_option maxHeartbeats 400000 in
theorem uintLen2 (w : World) (n : Nat) (hn : 256 ≤ n) (hn2 : n < 65536) :
    Calls Tryz.prog 148 #[.int .u64 n] w fun e w' => e = .returned (.int .i64 2) ∧ w' = w := by
  have hsh : (n : Int) / 2 ^ 8 = ((n / 256 : Nat) : Int) := by omega
  go_enter Tryz.func148, Tryz.ntmps148
  go_wp2_with fail
  refine wp_loop_rounds 2 ?_
  rw [rounds_succ]
  have h1 : (255 : Int) < (n : Int) := by omega
  go_wp2_with fail

  rw [rounds_succ]
  go_wp2_with fail
  go_ret
  exact ⟨rfl, rfl⟩

theorem wrap8 : ∀ n : Fin 256, IntKind.u8.wrap ((n.val : Nat) : Int) = ((n.val : Nat) : Int) := by decide +kernel

set_option maxHeartbeats 400000 in
set_option maxRecDepth 100000 in
theorem encUint1 (w : World) (n : Nat) (hn : n < 256) :
    Calls Tryz.prog 122 #[.int .u64 n] w fun e w' => e = .returned (.slice (some ⟨w.heap.size, 0, none⟩) 1 1) ∧ w'.heap[w.heap.size]? = some (.cells #[.int .u8 n] 5 (0, 0)) ∧ Ext none_ w w' := by
  have hw := wrap8 ⟨n, hn⟩
  simp only at hw
  have hmk : ∀ w, (Instr.makeSlice 26 (.int .i64 1) (.int .i64 1)).run Tryz.prog w = .ok (.slice (some ⟨w.heap.size, 0, none⟩) 1 1) (w.alloc (.cells #[.int .u8 0] 5)) := fun _ => by kernel_rfl
  go_enter Tryz.func122, Tryz.ntmps122
  go_wp2_with fail
  refine (uintLen1 w n hn).mono ?_
  rintro e w1 ⟨rfl, rfl⟩
  go_wp2_with fail
  refine wp_loop_rounds 2 ?_
  rw [rounds_succ]
  go_wp2_with fail
  rw [rounds_succ]
  go_wp2_with fail
  go_ret
  exact ⟨rfl, heap_new w1 _, (Ext.refl none_ w1).alloc _⟩

set_option maxHeartbeats 400000 in
set_option maxRecDepth 100000 in
theorem encUint2 (w : World) (n : Nat) (hn : 256 ≤ n) (hn2 : n < 65536) :
    Calls Tryz.prog 122 #[.int .u64 n] w fun e w' => e = .returned (.slice (some ⟨w.heap.size, 0, none⟩) 2 2) ∧ w'.heap[w.heap.size]? = some (.cells #[.int .u8 (n / 256 : Nat), .int .u8 (n % 256 : Nat)] 5 (0, 0)) ∧ Ext none_ w w' := by
  have hw1 : IntKind.u8.wrap ((n : Int) / 2 ^ 8) = ((n / 256 : Nat) : Int) := by
    have := wrap8 ⟨n / 256, by omega⟩
    rw [show ((n : Int) / 2 ^ 8) = ((n / 256 : Nat) : Int) by omega]; exact this
  have hw2 : IntKind.u8.wrap (n : Int) = ((n % 256 : Nat) : Int) := by
    show (n : Int) % 256 = _
    omega
  have hmk : ∀ w, (Instr.makeSlice 26 (.int .i64 2) (.int .i64 2)).run Tryz.prog w = .ok (.slice (some ⟨w.heap.size, 0, none⟩) 2 2) (w.alloc (.cells #[.int .u8 0, .int .u8 0] 5)) := fun _ => by kernel_rfl
  go_enter Tryz.func122, Tryz.ntmps122
  go_wp2_with fail
  refine (uintLen2 w n hn hn2).mono ?_
  rintro e w1 ⟨rfl, rfl⟩
  go_wp2_with fail
  refine wp_loop_rounds 3 ?_
  rw [rounds_succ]
  go_wp2_with fail
  rw [rounds_succ]
  go_wp2_with fail
  rw [rounds_succ]
  go_wp2_with fail
  go_ret
  refine ⟨rfl, ?_, (Ext.refl none_ w1).alloc _⟩
  rw [heap_new, show ((n / 256 : Nat) : Int) = (n : Int) / 256 by omega, show ((n % 256 : Nat) : Int) = (n : Int) % 256 by omega]

/-- The length's bytes as encodeLength writes them. -/
def lenEnc (n : Nat) : List UInt8 :=
  if n ≤ 127 then [UInt8.ofNat n] else if n < 256 then [129, UInt8.ofNat n] else [130, UInt8.ofNat (n / 256), UInt8.ofNat (n % 256)]

theorem ownsRow_of_block {w : World} {b g cap n : Nat} {cur : Array Value} {T : TypeId} {xs : List Value} (h : w.heap[g]? = some (.cells cur T (0, 0))) (hb : b ≤ g) (hc : cur.size = cap) (hn : n ≤ cap) (hcm : cap ≤ maxLen) (hx : cur.toList.take n = xs) : w.ownsRow b T 1 (.slice (some ⟨g, 0, none⟩) n cap) n xs := by
  refine ⟨?_, .inr ⟨g, cap, cur, rfl, hb, h, hn, hcm, by omega, by rw [Nat.mul_one]; exact hx⟩⟩
  rw [← hx, List.length_take, Array.length_toList]; omega

/-- The bytes of an owned row. -/
theorem BytesAt.of_owns {w : World} {b : Nat} {v : Value} {n : Nat} {T : TypeId} {l : List UInt8} (h : w.ownsRow b T 1 v n (Lib.byteCells l)) (hn : v ≠ .slice none 0 0) : ∃ g c, v = .slice (some ⟨g, 0, none⟩) l.length c ∧ b ≤ g ∧ BytesAt w g 0 l := by
  obtain ⟨hl, ⟨rfl, _⟩ | ⟨g, cap, cur, rfl, hb, hg, hnc, hcm, hcs, htake⟩⟩ := h
  · exact absurd rfl hn
  · simp [Lib.byteCells] at hl
    subst hl
    refine ⟨g, cap, rfl, hb, cur, T, (0, 0), hg, fun j x hj => ?_⟩
    have : (cur.toList.take (l.length * 1))[j]? = some (.int .u8 x.toNat) := by
      rw [htake]; simp [Lib.byteCells, hj]
    rw [List.getElem?_take] at this
    split at this
    · rw [Nat.zero_add, ← Array.getElem?_toList]; exact this
    · cases this

/-- append of bytes onto an owned row. -/
theorem append_bytes (W : World) (b : Nat) (v : Value) (l cs : List UInt8) (sg so sc : Nat) (hown : W.ownsRow b 5 1 v l.length (Lib.byteCells l)) (hB : BytesAt W sg so cs) (h0 : 0 < cs.length) (hlim : l.length + cs.length ≤ 140737488355328) (hb : b ≤ W.heap.size) :
    ∃ g c W', (Builtin.append_ #[26, 26] 26 #[v, .slice (some ⟨sg, so, none⟩) cs.length sc]).run Tryz.prog W = .ok (.slice (some ⟨g, 0, none⟩) (l ++ cs).length c) W' ∧ b ≤ g ∧ BytesAt W' g 0 (l ++ cs) ∧ Ext (fun k => v.ownBlock = some k) W W' := by
  obtain ⟨i, hi, hz, hs, hby⟩ := info_parts info5
  obtain ⟨v', W', hrun, hown', hgr, hv⟩ := run_append_own (P := Tryz.prog) W b 26 26 5 i (.int .u8 0) 1 1 Tryz.underlying26 hi hz hs hby rfl (by omega) v l.length (Lib.byteCells l) hown ⟨sg, so, none⟩ cs.length sc (Lib.byteCells cs) (by simp [Lib.byteCells]) hB.src (byteCells_one cs) (by unfold maxLen; omega) (by omega) hb
  have hv' : v' ≠ .slice none 0 0 := fun e => by have := (hv.1 e).2; omega
  have hcat : Lib.byteCells l ++ Lib.byteCells cs = Lib.byteCells (l ++ cs) := by simp [Lib.byteCells]
  rw [hcat] at hown'
  obtain ⟨g, c, rfl, hbg, hB'⟩ := BytesAt.of_owns hown' hv'
  exact ⟨g, c, W', hrun, hbg, hB', Ext.of_grown hgr⟩

set_option maxHeartbeats 400000 in
set_option maxRecDepth 100000 in
theorem encLen1 (w : World) (n : Nat) (hn : n ≤ 127) :
    Calls Tryz.prog 83 #[.int .i64 n] w fun e w' => e = .returned (.slice (some ⟨w.heap.size, 0, none⟩) 1 1) ∧ w'.heap[w.heap.size]? = some (.cells #[.int .u8 n] 5 (0, 0)) ∧ Ext none_ w w' := by
  go_enter Tryz.func83, Tryz.ntmps83
  go_wp2_with fail
  refine (encUint1 w n (by omega)).mono ?_
  rintro e w1 ⟨rfl, h1, E1⟩
  go_wp2_with fail
  go_ret
  exact ⟨rfl, h1, E1⟩

theorem one_bytes {w : World} {g : Nat} {z : Int} {x : UInt8} (h : w.heap[g]? = some (.cells #[.int .u8 z] 5 (0, 0))) (hz : z = (x.toNat : Nat)) : BytesAt w g 0 [x] := by
  refine ⟨_, _, _, h, fun j y hj => ?_⟩
  match j, hj with
  | 0, hj =>
    obtain rfl := Option.some.inj hj
    rw [hz]; rfl

set_option maxHeartbeats 400000 in
set_option maxRecDepth 100000 in
theorem encLen2 (w : World) (n : Nat) (hn : 127 < n) (hn2 : n < 256) :
    Calls Tryz.prog 83 #[.int .i64 n] w fun e w' => ∃ g c, e = .returned (.slice (some ⟨g, 0, none⟩) 2 c) ∧ w.heap.size ≤ g ∧ BytesAt w' g 0 [129, UInt8.ofNat n] ∧ Ext none_ w w' := by
  go_enter Tryz.func83, Tryz.ntmps83
  go_wp2_with fail
  refine (encUint1 w n (by omega)).mono ?_
  rintro e w1 ⟨rfl, h1, E1⟩
  have hs1 := E1.size
  have E2 := E1.alloc (.cells #[.int .u8 129] 5)
  have hBs := (one_bytes (x := UInt8.ofNat n) h1 (by simp; omega)).ext ((Ext.refl none_ w1).alloc (.cells #[.int .u8 129] 5)) (fun h => h)
  obtain ⟨g, c, W', hrun, hg, hB, E3⟩ := append_bytes (w1.alloc (.cells #[.int .u8 129] 5)) w.heap.size (.slice (some ⟨w1.heap.size, 0, none⟩) 1 1) [129] [UInt8.ofNat n] w.heap.size 0 1 (ownsRow_of_block (heap_new w1 _) hs1 rfl (by omega) (by unfold maxLen; omega) rfl) hBs (by simp) (by simp) (by simp; omega)
  have hrun' : (Builtin.append_ #[26, 26] 26 #[.slice (some ⟨w1.heap.size, 0, none⟩) 1 1, .slice (some ⟨w.heap.size, 0, none⟩) 1 1]).run Tryz.prog (w1.alloc (.cells #[.int .u8 129] 5)) = .ok (.slice (some ⟨g, 0, none⟩) 2 c) W' := hrun
  have H := Lib.hid h1
  clear h1 hrun
  go_wp2_with (at_builtin; refine Lib.wpList_append_run _ rfl _ _ _ _ rfl _ _ rfl rfl _ _ hrun' ?_)
  go_ret
  exact ⟨g, ⟨c, rfl⟩, hg, hB, E2.trans' E3 fun i hi h => by simp [Value.ownBlock] at h; omega⟩

theorem two_bytes {w : World} {g : Nat} {z z2 : Int} {x y : UInt8} (h : w.heap[g]? = some (.cells #[.int .u8 z, .int .u8 z2] 5 (0, 0))) (hz : z = (x.toNat : Nat)) (hz2 : z2 = (y.toNat : Nat)) : BytesAt w g 0 [x, y] := by
  refine ⟨_, _, _, h, fun j v hj => ?_⟩
  match j, hj with
  | 0, hj =>
    obtain rfl := Option.some.inj hj
    rw [hz]; rfl
  | 1, hj =>
    obtain rfl := Option.some.inj hj
    rw [hz2]; rfl

set_option maxHeartbeats 400000 in
set_option maxRecDepth 100000 in
theorem encLen3 (w : World) (n : Nat) (hn : 256 ≤ n) (hn2 : n < 65536) :
    Calls Tryz.prog 83 #[.int .i64 n] w fun e w' => ∃ g c, e = .returned (.slice (some ⟨g, 0, none⟩) 3 c) ∧ w.heap.size ≤ g ∧ BytesAt w' g 0 [130, UInt8.ofNat (n / 256), UInt8.ofNat (n % 256)] ∧ Ext none_ w w' := by
  go_enter Tryz.func83, Tryz.ntmps83
  go_wp2_with fail
  refine (encUint2 w n hn hn2).mono ?_
  rintro e w1 ⟨rfl, h1, E1⟩
  have hs1 := E1.size
  have E2 := E1.alloc (.cells #[.int .u8 130] 5)
  have hBs := (two_bytes (x := UInt8.ofNat (n / 256)) (y := UInt8.ofNat (n % 256)) h1 (by rw [UInt8.toNat_ofNat_of_lt' (show _ < 256 by omega)]) (by rw [UInt8.toNat_ofNat_of_lt' (show _ < 256 by omega)])).ext ((Ext.refl none_ w1).alloc (.cells #[.int .u8 130] 5)) (fun h => h)
  obtain ⟨g, c, W', hrun, hg, hB, E3⟩ := append_bytes (w1.alloc (.cells #[.int .u8 130] 5)) w.heap.size (.slice (some ⟨w1.heap.size, 0, none⟩) 1 1) [130] [UInt8.ofNat (n / 256), UInt8.ofNat (n % 256)] w.heap.size 0 2 (ownsRow_of_block (heap_new w1 _) hs1 rfl (by omega) (by unfold maxLen; omega) rfl) hBs (by simp) (by simp) (by simp; omega)
  have hrun' : (Builtin.append_ #[26, 26] 26 #[.slice (some ⟨w1.heap.size, 0, none⟩) 1 1, .slice (some ⟨w.heap.size, 0, none⟩) 2 2]).run Tryz.prog (w1.alloc (.cells #[.int .u8 130] 5)) = .ok (.slice (some ⟨g, 0, none⟩) 3 c) W' := hrun
  have H := Lib.hid h1
  clear h1 hrun
  go_wp2_with (at_builtin; refine Lib.wpList_append_run _ rfl _ _ _ _ rfl _ _ rfl rfl _ _ hrun' ?_)
  go_ret
  exact ⟨g, ⟨c, rfl⟩, hg, hB, E2.trans' E3 fun i hi h => by simp [Value.ownBlock] at h; omega⟩

/-- encodeLength. -/
theorem encLen_any (w : World) (n : Nat) (hn : n < 65536) :
    Calls Tryz.prog 83 #[.int .i64 n] w fun e w' => ∃ g c, e = .returned (.slice (some ⟨g, 0, none⟩) (lenEnc n).length c) ∧ w.heap.size ≤ g ∧ BytesAt w' g 0 (lenEnc n) ∧ Ext none_ w w' := by
  unfold lenEnc
  by_cases h1 : n ≤ 127
  · rw [if_pos h1]
    refine (encLen1 w n h1).mono ?_
    rintro e w' ⟨rfl, h, E⟩
    exact ⟨_, _, rfl, Nat.le_refl _, one_bytes h (by rw [UInt8.toNat_ofNat_of_lt' (show _ < 256 by omega)]), E⟩
  · rw [if_neg h1]
    by_cases h2 : n < 256
    · rw [if_pos h2]
      exact encLen2 w n (by omega) h2
    · rw [if_neg h2]
      exact encLen3 w n (by omega) hn

end Go.Proofs.YtocjfcgailkfjaaGreatDoor
end

section
namespace Go.Proofs.YtocjfcgailkfjaaGreatDoor
open Go.RowKit

/-- A packet's block. -/
def PkBlk (w : World) (p cc bt tag : Nat) (val : Value) (bv : Value) (d : Nat) (ch : Value) (ds : ByteArray) : Prop :=
  w.heap[p]? = some (.cells #[.int .u8 cc, .int .u8 bt, .int .u64 tag, val, bv, .pointer (some ⟨d, 0, none⟩), ch, .string ds] 220 (0, 0))

theorem PkBlk.ext {S : Nat → Prop} {w w' : World} {p cc bt tag d : Nat} {val bv ch : Value} {ds : ByteArray} (h : PkBlk w p cc bt tag val bv d ch ds) (e : Ext S w w') (hs : ¬ S p) : PkBlk w' p cc bt tag val bv d ch ds := e.get h hs

theorem BufAt.len {w : World} {d : Nat} {row : Option Nat} {bs : List UInt8} (h : BufAt w d row bs) (hl : bs.length ≤ 140737488355328) : Calls Tryz.prog 84 #[.pointer (some ⟨d, 0, none⟩)] w fun e w' => e = .returned (.int .i64 (bs.length : Nat)) ∧ Same w w' := by
  obtain ⟨lr, ⟨rfl, rfl, h⟩ | ⟨g, cap, cur, rfl, hgd, h, hg, r⟩⟩ := h
  · exact bufLen_any w d none 0 0 _ h (by omega)
  · exact bufLen_any w d _ _ _ _ h (by omega)

set_option maxHeartbeats 400000 in
set_option maxRecDepth 100000 in
theorem packetBytes_aux (w : World) (p cc bt tag d : Nat) (val bv ch : Value) (ds : ByteArray) (row : Option Nat) (bs : List UInt8) (idb : UInt8) (le : List UInt8) (hidb : Hid (idb = UInt8.ofNat (cc + bt + tag))) (hle : Hid (le = lenEnc bs.length)) (h : PkBlk w p cc bt tag val bv d ch ds) (hd : BufAt w d row bs) (hc : Hid (cc % 64 = 0 ∧ cc < 256)) (hb : Hid (bt = 0 ∨ bt = 32)) (ht : tag < 31) (hl : bs.length < 65536) :
    Calls Tryz.prog 53 #[.pointer (some ⟨p, 0, none⟩)] w fun e w' => ∃ v, e = .returned v ∧ (∃ g c, v = (.slice (some ⟨g, 0, none⟩) ([idb] ++ le ++ bs).length c) ∧ w.heap.size ≤ g ∧ BytesAt w' g 0 ([idb] ++ le ++ bs)) ∧ Ext none_ w w' := by
  have H := Lib.hid h
  have hA := two_new w (.cells #[.slice none 0 0, .int .i64 0, .int .i8 0] 208 (0, 0)) (.cells #[] 0 (0, 0))
  have E0 := (Ext.refl none_ w).alloc (.cells #[.slice none 0 0, .int .i64 0, .int .i8 0] 208 (0, 0))
  have hp := lt_of_block h
  have h0 : PkBlk (w.alloc (.cells #[.slice none 0 0, .int .i64 0, .int .i8 0] 208 (0, 0))) p cc bt tag val bv d ch ds := heap_old h
  have hd0 := hd.ext E0 (fun h => h) (fun _ _ h => h)
  have hb0 : BufAt (w.alloc (.cells #[.slice none 0 0, .int .i64 0, .int .i8 0] 208 (0, 0))) w.heap.size none [] := ⟨0, .inl ⟨rfl, rfl, heap_new w _⟩⟩
  have hdl := hd.lt
  clear hA h hd
  have c0 := Lib.cell_of_heap h0
  have f0 := Lib.frozen_of_heap h0
  go_enter Tryz.func53, Tryz.ntmps53
  go_wp2_with fail
  clear c0 f0
  refine cutC (fun W => PkBlk W p cc bt tag val bv d ch ds ∧ BufAt W d row bs ∧ BufAt W w.heap.size none [] ∧ Ext none_ w W) ⟨h0, hd0, hb0, E0⟩ ?_
  clear h0 hd0 hb0 E0
  rintro W ⟨h0, hd0, hb0, E0⟩
  refine (encodeIdentifier_any W cc bt tag hc hb ht).mono ?_
  rintro e w1 ⟨g1, rfl, hg1, hB1, E1⟩
  have hs := E0.size
  have hbl0 := hb0.lt.1
  rw [← hidb.out] at hB1
  clear hb hc ht H
  go_wp2_with fail
  refine (write_any w1 w.heap.size none (some ⟨g1, 0, none⟩) 1 [] [idb] (hb0.ext E1 (fun h => h) (fun _ _ h => h)) (.inr ⟨g1, 0, rfl, hB1, by omega, by simp⟩) (by simp)).mono ?_
  rintro e w2 ⟨rfl, row2, hb2, hr2, E2⟩
  have E01 := E0.trans E1
  have h2 := (h0.ext E1 (fun h => h)).ext E2 (by simp; omega)
  have hd2 := (hd0.ext E1 (fun h => h) (fun _ _ h => h)).ext E2 (by simp; omega) (fun g hg => by have := (hdl.2 g hg).1; simp; omega)
  have E02 : Ext none_ w w2 := E01.trans' E2 (fun i hi h => by simp at h; omega)
  have hr2' : ∀ g, row2 = some g → w.heap.size ≤ g := fun g hg => by
    rcases hr2 with rfl | ⟨g', rfl, h⟩
    · cases hg
    · cases hg; have := E01.size; omega
  clear h0 hd0 hb0 hbl0 E1 hB1 E2 E01 hr2 E0 hs hg1
  rw [List.nil_append] at hb2
  have c2 := Lib.cell_of_heap h2
  have f2 := Lib.frozen_of_heap h2
  go_wp2_with fail
  refine (hd2.len (by omega)).mono ?_
  rintro e w3 ⟨rfl, hs3⟩
  clear c2 f2
  have E3 : Ext none_ w2 w3 := hs3.ext
  go_wp2_with fail
  refine (encLen_any w3 bs.length hl).mono ?_
  rintro e w4 ⟨g4, cp4, rfl, hg4, hB4, E4⟩
  have E34 := E3.trans E4
  have hs4 := E3.size
  have hs2 := E02.size
  have hlle : le.length ≤ 3 := by rw [hle.out]; unfold lenEnc; split; simp; split <;> simp
  rw [← hle.out] at hB4
  rw [← hle.out]
  have hbl := hb2.lt
  go_wp2_with fail
  refine (write_any w4 w.heap.size row2 (some ⟨g4, 0, none⟩) cp4 [idb] le (hb2.ext E34 (fun h => h) (fun _ _ h => h)) (.inr ⟨g4, 0, rfl, hB4, by omega, fun e => by have := (hbl.2 _ e).1; omega⟩) (by simp; omega)).mono ?_
  rintro e w5 ⟨rfl, row5, hb5, hr5, E5⟩
  have h5 := (h2.ext E34 (fun h => h)).ext E5 (fun h => by rcases h with h | h; omega; have := hr2' _ h; omega)
  have hd5 := (hd2.ext E34 (fun h => h) (fun _ _ h => h)).ext E5 (fun h => by rcases h with h | h; omega; have := hr2' _ h; omega) (fun g hg h => by have := (hdl.2 g hg).1; rcases h with h | h; omega; have := hr2' _ h; omega)
  have E05 : Ext none_ w w5 := (E02.trans E34).trans' E5 (fun i hi h => by rcases h with h | h; omega; have := hr2' _ h; omega)
  have hr5' : ∀ g, row5 = some g → w.heap.size ≤ g := fun g hg => by
    rcases hr5 with rfl | ⟨g', rfl, h⟩
    · exact hr2' g hg
    · cases hg; have := (E02.trans E34).size; omega
  clear h2 hd2 hb2 E5 E34 E4 E3 hr5 hs3 hB4 E02 hr2' hbl
  have c5 := Lib.cell_of_heap h5
  have f5 := Lib.frozen_of_heap h5
  go_wp2_with fail
  refine (bufBytes_any w5 d row bs hd5).mono ?_
  rintro e w6 ⟨⟨v6, rfl, hv6⟩, hs6⟩
  obtain ⟨a6, cp6, rfl, hv6⟩ := hv6
  clear c5 f5
  have E6 : Ext none_ w5 w6 := hs6.ext
  have hb6 := hb5.ext E6 (fun h => h) (fun _ _ h => h)
  go_wp2_with fail
  refine (write_any w6 w.heap.size row5 a6 cp6 ([idb] ++ le) bs hb6 ?_ (by simp; omega)).mono ?_
  · rcases hv6 with h | ⟨g, rfl, hB, hr⟩
    · exact .inl h
    · refine .inr ⟨g, 0, rfl, hB.of_heap (by rw [hs6.heap]), ?_, fun e => ?_⟩
      · have := (hdl.2 g hr).1; omega
      · have := (hdl.2 g hr).1; have := hr5' g e; omega
  rintro e w7 ⟨rfl, row7, hb7, hr7, E7⟩
  have E07 : Ext none_ w w7 := (E05.trans E6).trans' E7 (fun i hi h => by rcases h with h | h; omega; have := hr5' _ h; omega)
  have hr7' : ∀ g, row7 = some g → w.heap.size ≤ g := fun g hg => by
    rcases hr7 with rfl | ⟨g', rfl, h⟩
    · exact hr5' g hg
    · cases hg; have := (E05.trans E6).size; omega
  go_wp2_with fail
  refine (bufBytes_any w7 w.heap.size row7 _ hb7).mono ?_
  rintro e w8 ⟨⟨v8, rfl, hv8⟩, hs8⟩
  obtain ⟨a8, cp8, rfl, hv8⟩ := hv8
  rcases hv8 with h | ⟨g, rfl, hB, hr⟩
  · simp at h
  go_wp2_with fail
  go_ret
  exact ⟨_, rfl, ⟨g, cp8, by simp, hr7' g hr, hB.of_heap (by rw [hs8.heap])⟩, E07.trans hs8.ext⟩

theorem packetBytes_any (w : World) (p cc bt tag d : Nat) (val bv ch : Value) (ds : ByteArray) (row : Option Nat) (bs : List UInt8) (h : PkBlk w p cc bt tag val bv d ch ds) (hd : BufAt w d row bs) (hc : Hid (cc % 64 = 0 ∧ cc < 256)) (hb : Hid (bt = 0 ∨ bt = 32)) (ht : tag < 31) (hl : bs.length < 65536) :
    Calls Tryz.prog 53 #[.pointer (some ⟨p, 0, none⟩)] w fun e w' => ∃ v, e = .returned v ∧ (∃ g c, v = (.slice (some ⟨g, 0, none⟩) ([UInt8.ofNat (cc + bt + tag)] ++ lenEnc bs.length ++ bs).length c) ∧ w.heap.size ≤ g ∧ BytesAt w' g 0 ([UInt8.ofNat (cc + bt + tag)] ++ lenEnc bs.length ++ bs)) ∧ Ext none_ w w' :=
  packetBytes_aux w p cc bt tag d val bv ch ds row bs _ _ rfl rfl h hd hc hb ht hl

end Go.Proofs.YtocjfcgailkfjaaGreatDoor
end

section
namespace Go.Proofs.YtocjfcgailkfjaaGreatDoor
open Go.RowKit

theorem info87 : (Tryz.prog.info? 87).map (fun i => (i.zero, i.size, i.bytes)) = some (some (.pointer none), 1, 8) := by kernel_rfl

/-- A list of pointers to packets in block g. -/
def ChAt (w : World) (g : Nat) (ch : Value) (ps : List Nat) : Prop :=
  ∃ cap cur, ch = .slice (some ⟨g, 0, none⟩) ps.length cap ∧ w.heap[g]? = some (.cells cur 87 (0, 0)) ∧ cur.size = cap ∧ ps.length ≤ cap ∧ cap ≤ maxLen ∧
    ∀ (j : Nat) q, ps[j]? = some q → cur[j]? = some (.pointer (some ⟨q, 0, none⟩))

theorem ChAt.lt {w : World} {g : Nat} {ch : Value} {ps : List Nat} (h : ChAt w g ch ps) : g < w.heap.size := by
  obtain ⟨cap, cur, rfl, h, _⟩ := h; exact lt_of_block h
theorem ChAt.of_heap {w w' : World} {g : Nat} {ch : Value} {ps : List Nat} (h : ChAt w g ch ps) (e : w'.heap[g]? = w.heap[g]?) : ChAt w' g ch ps := by
  obtain ⟨cap, cur, rfl, h, r⟩ := h; exact ⟨cap, cur, rfl, e.trans h, r⟩
theorem ChAt.ext {S : Nat → Prop} {w w' : World} {g : Nat} {ch : Value} {ps : List Nat} (h : ChAt w g ch ps) (e : Ext S w w') (hs : ¬ S g) : ChAt w' g ch ps := h.of_heap (e.block g h.lt hs)

theorem append_ptr (W : World) (g sg q : Nat) (ch : Value) (ps : List Nat) (h : ChAt W g ch ps) (hs : W.heap[sg]? = some (.cells #[.pointer (some ⟨q, 0, none⟩)] 87 (0, 0))) (hl : ps.length ≤ 1000000) :
    ∃ ch' W' g', (Builtin.append_ #[218, 218] 218 #[ch, .slice (some ⟨sg, 0, none⟩) 1 1]).run Tryz.prog W = .ok ch' W' ∧ ChAt W' g' ch' (ps ++ [q]) ∧ Ext (fun b => b = g) W W' ∧ (g' = g ∨ W.heap.size ≤ g') := by
  obtain ⟨i, hi, hz, hsz, hby⟩ := info_parts info87
  obtain ⟨cap, cur, rfl, hg, hcs, hlc, hcm, hcur⟩ := h
  have hcl : cur.toList.length = cap := by rw [Array.length_toList (xs := cur)]; exact hcs
  have hnews : ∀ j u, ([.pointer (some ⟨q, 0, none⟩)] : List Value)[j]? = some u → W.cell? ((⟨sg, 0, none⟩ : Addr).add j) = some u := by
    intro j u hj
    match j, hj with
    | 0, hj =>
      obtain rfl := Option.some.inj hj
      rw [Lib.addr_add, Lib.cell_of_heap hs]; rfl
  by_cases hroom : ps.length + 1 ≤ cap
  · have hr := run_append_room (P := Tryz.prog) W 218 218 87 i Tryz.underlying218 hi g ps.length cap cur hg ⟨sg, 0, none⟩ 1 1 [.pointer (some ⟨q, 0, none⟩)] (by rw [hsz]; rfl) hnews (by simp [Value.oneCell']) hroom (by rw [hsz]; simp; omega)
    refine ⟨_, _, g, hr, ⟨cap, _, by simp, setRow_heap _ _ _ _ _ _ hg, ?_, by simpa using hroom, hcm, ?_⟩, (Ext.refl (fun b => b = g) W).setRow (g := g) (fun _ => rfl) _, .inl rfl⟩
    · rw [hsz]; simp; omega
    · intro j x hj
      rw [hsz, Nat.mul_one, List.getElem?_toArray, List.append_assoc]
      by_cases hjl : j < ps.length
      · rw [List.getElem?_append_left (by rw [List.length_take, hcl]; omega), List.getElem?_take, if_pos hjl, Array.getElem?_toList]
        rw [List.getElem?_append_left hjl] at hj
        exact hcur j x hj
      · rw [List.getElem?_append_right (by omega)] at hj
        have hj0 : j = ps.length := by
          have := (List.getElem?_eq_some_iff.1 hj).1
          simp at this; omega
        subst hj0
        simp at hj
        subst hj
        rw [List.getElem?_append_right (by rw [List.length_take, hcl]; omega), List.length_take, hcl, Nat.min_eq_left (by omega)]
        simp
  · have hcap : cap = ps.length := by omega
    have holds : ∀ j v, (cur.toList.take ps.length)[j]? = some v → W.cell? ((⟨g, 0, none⟩ : Addr).add j) = some v := by
      intro j v hj
      rw [Lib.addr_add, Lib.cell_of_heap hg, Nat.zero_add]
      rw [List.getElem?_take] at hj
      split at hj
      · rw [← Array.getElem?_toList]; exact hj
      · cases hj
    have hnc : Builtin.nextslicecap (ps.length + 1) cap * i.bytes ≤ 281474976710656 := by
      rw [hby]
      exact growslice_fits (by omega) (by omega)
    have hr := run_append_grow (P := Tryz.prog) W 218 218 87 i (.pointer none) Tryz.underlying218 hi hz ⟨g, 0, none⟩ ps.length cap (cur.toList.take ps.length) (by rw [hsz, List.length_take, hcl]; omega) holds ⟨sg, 0, none⟩ 1 1 [.pointer (some ⟨q, 0, none⟩)] (by rw [hsz]; rfl) hnews (by omega) (by omega) hnc
    have hge := grownCap_ge W (ps.length + 1) cap 87
    refine ⟨_, _, W.heap.size, hr, ⟨grownCap W (ps.length + 1) cap 87, _, by simp, heap_new W.drew _, ?_, by simpa using hge, grownCap_le_maxLen W _ _ _ (by unfold maxLen; omega), ?_⟩, ((Ext.refl _ W).drew).alloc _, .inr (Nat.le_refl _)⟩
    · simp only [Array.size_append, List.size_toArray, size_zeroCells, List.length_take, hcl, Value.cells, List.length_singleton]
      simp
      omega
    · intro j x hj
      rw [Array.append_assoc]
      by_cases hjl : j < ps.length
      · rw [Array.getElem?_append_left (by rw [List.size_toArray, List.length_take, hcl]; omega), List.getElem?_toArray, List.getElem?_take, if_pos hjl, Array.getElem?_toList]
        rw [List.getElem?_append_left hjl] at hj
        exact hcur j x hj
      · rw [List.getElem?_append_right (by omega)] at hj
        have hj0 : j = ps.length := by
          have := (List.getElem?_eq_some_iff.1 hj).1
          simp at this; omega
        subst hj0
        simp at hj
        subst hj
        rw [Array.getElem?_append_right (by rw [List.size_toArray, List.length_take, hcl]; omega), List.size_toArray, List.length_take, hcl, Nat.min_eq_left (by omega), Nat.sub_self]
        simp [Array.getElem?_append]

end Go.Proofs.YtocjfcgailkfjaaGreatDoor
end

section
namespace Go.Proofs.YtocjfcgailkfjaaGreatDoor
open Go.RowKit

attribute [local go_sem ↓] Go.wp_at_zero Go.wp_at_succ

def encOf (cc bt tag : Nat) (bs : List UInt8) : List UInt8 := [UInt8.ofNat (cc + bt + tag)] ++ lenEnc bs.length ++ bs

theorem packetBytes_enc (w : World) (p cc bt tag d : Nat) (val bv ch : Value) (ds : ByteArray) (row : Option Nat) (bs enc : List UInt8) (he : Hid (enc = encOf cc bt tag bs)) (h : PkBlk w p cc bt tag val bv d ch ds) (hd : BufAt w d row bs) (hc : Hid (cc % 64 = 0 ∧ cc < 256)) (hb : Hid (bt = 0 ∨ bt = 32)) (ht : tag < 31) (hl : bs.length < 65536) :
    Calls Tryz.prog 53 #[.pointer (some ⟨p, 0, none⟩)] w fun e w' => ∃ g c, e = .returned (.slice (some ⟨g, 0, none⟩) enc.length c) ∧ w.heap.size ≤ g ∧ BytesAt w' g 0 enc ∧ Ext none_ w w' := by
  rw [he.out]
  refine (packetBytes_any w p cc bt tag d val bv ch ds row bs h hd hc hb ht hl).mono ?_
  rintro e w1 ⟨v, rfl, ⟨gq, cq, rfl, hgq, hB⟩, E1⟩
  exact ⟨gq, cq, rfl, hgq, hB, E1⟩

theorem lenEnc_length (n : Nat) : (lenEnc n).length ≤ 3 := by unfold lenEnc; split; simp; split <;> simp

set_option maxHeartbeats 1000000 in
set_option maxRecDepth 100000 in
theorem appendChild_any (w : World) (p cc bt tag d g : Nat) (val bv ch : Value) (ds : ByteArray) (row : Option Nat) (bs : List UInt8) (ps : List Nat)
    (q qc qb qt qd : Nat) (qv qbv qch : Value) (qds : ByteArray) (qrow : Option Nat) (cs enc : List UInt8) (he : Hid (enc = encOf qc qb qt cs))
    (h : PkBlk w p cc bt tag val bv d ch ds) (hd : BufAt w d row bs) (hch : ChAt w g ch ps)
    (hq : PkBlk w q qc qb qt qv qbv qd qch qds) (hqd : BufAt w qd qrow cs) (hc : Hid (qc % 64 = 0 ∧ qc < 256)) (hb : Hid (qb = 0 ∨ qb = 32)) (ht : qt < 31) (hl : cs.length < 65536)
    (hbl : bs.length ≤ 1000000) (hpl : ps.length ≤ 1000000) (hgp : g ≠ p) (hpd : p ≠ d) (hgd : g ≠ d) (hrp : row ≠ some p) (hrg : row ≠ some g) :
    Calls Tryz.prog 97 #[.pointer (some ⟨p, 0, none⟩), .pointer (some ⟨q, 0, none⟩)] w fun e w' => e = .returned (.tuple #[]) ∧ ∃ row' ch' g', PkBlk w' p cc bt tag val bv d ch' ds ∧ BufAt w' d row' (bs ++ enc) ∧ ChAt w' g' ch' (ps ++ [q]) ∧
      (row' = row ∨ ∃ k, row' = some k ∧ w.heap.size ≤ k) ∧ (g' = g ∨ w.heap.size ≤ g') ∧ row' ≠ some g' ∧ Ext (fun b => b = p ∨ b = d ∨ row = some b ∨ b = g) w w' := by
  have c0 := Lib.cell_of_heap h
  have f0 := Lib.frozen_of_heap h
  have hel : enc.length ≤ 70000 := by
    rw [he.out]; unfold encOf; have := lenEnc_length cs.length; simp; omega
  have hpl0 := lt_of_block h
  have hbl0 := hd.lt
  have hgl0 := hch.lt
  go_enter Tryz.func97, Tryz.ntmps97
  go_wp2_with fail
  go_cut [] from 4 (fun W => ∃ row', PkBlk W p cc bt tag val bv d ch ds ∧ BufAt W d row' (bs ++ enc) ∧ ChAt W g ch ps ∧ (row' = row ∨ ∃ k, row' = some k ∧ w.heap.size ≤ k) ∧ Ext (fun b => b = d ∨ row = some b) w W)
  case first =>
    go_region_with (first | (go_at_call 53; refine (packetBytes_enc w.drew q qc qb qt qd qv qbv qch qds qrow cs enc he hq hqd hc hb ht hl).mono ?_; rintro e w1 ⟨gq, cq, rfl, hgq, hB, E1⟩; clear c0 f0; have h1 := PkBlk.ext (w := w.drew) h E1 (fun h => h); have c1 := Lib.cell_of_heap h1) | (go_at_call 81; refine (write_any w1 d row (some ⟨gq, 0, none⟩) cq bs enc (BufAt.ext (w := w.drew) hd E1 (fun h => h) (fun _ _ h => h)) (.inr ⟨gq, 0, rfl, hB, by have : w.drew.heap.size = w.heap.size := rfl; omega, fun e => by have := (hbl0.2 _ e).1; have : w.drew.heap.size = w.heap.size := rfl; omega⟩) (by omega)).mono ?_; rintro e w2 ⟨rfl, row', hbw, hr, E2⟩))
    all_goals
      go_wp2_with fail
      go_meet
      case rel =>
        have E02 : Ext (fun b => b = d ∨ row = some b) w w2 := ((Ext.refl _ w).drew.trans (Ext.zero E1)).trans E2
        have hsz : w.heap.size ≤ w1.heap.size := E1.size
        refine ⟨row', h1.ext E2 (fun hh => ?_), hbw, hch.ext E02 (fun hh => ?_), hr.imp id (fun ⟨k, e, hk⟩ => ⟨k, e, by omega⟩), E02⟩
        · rcases hh with hh | hh
          · exact hpd hh
          · exact hrp hh
        · rcases hh with hh | hh
          · exact hgd hh
          · exact hrg hh
  case rest =>
    obtain ⟨row', h1, hd1, hch1, hr1, E1⟩ := hcut
    have hs1 := E1.size
    have hal : (wc.alloc (.cells #[.pointer (some ⟨q, 0, none⟩)] 87)).heap.size = wc.heap.size + 1 := by simp
    have E2 := (Ext.refl none_ wc).alloc (.cells #[.pointer (some ⟨q, 0, none⟩)] 87)
    obtain ⟨ch', W', g', hrun, hch', E3, hg'⟩ := append_ptr (wc.alloc (.cells #[.pointer (some ⟨q, 0, none⟩)] 87)) g wc.heap.size q ch ps (hch1.ext E2 (fun h => h)) (heap_new wc _) hpl
    have h3 := (h1.ext E2 (fun h => h)).ext E3 (fun e => hgp e.symm)
    have E13 : Ext (fun b => b = p ∨ b = d ∨ row = some b ∨ b = g) w W' := (E1.mono (fun b _ h => h.elim (fun h => .inr (.inl h)) (fun h => .inr (.inr (.inl h))))).trans ((Ext.zero E2).trans (E3.mono (fun b _ h => .inr (.inr (.inr h)))))
    have hrow' : row' ≠ some g := fun e => by
      rcases hr1 with rfl | ⟨k, rfl, hk⟩
      · exact hrg e
      · cases e; omega
    have hrowp : row' ≠ some p := fun e => by
      rcases hr1 with rfl | ⟨k, rfl, hk⟩
      · exact hrp e
      · cases e; omega
    have hd3 := (hd1.ext E2 (fun h => h) (fun _ _ h => h)).ext E3 (fun e => hgd e.symm) (fun k hk e => hrow' (by rw [hk, e]))
    obtain ⟨cap', rfl⟩ : ∃ cap', ch' = .slice (some ⟨g', 0, none⟩) (ps.length + 1) cap' := by obtain ⟨cap', cur', e, r⟩ := hch'; exact ⟨cap', by rw [e, List.length_append]; rfl⟩
    have hrg' : row' ≠ some g' := fun e => by
      rcases hg' with rfl | hg'
      · exact hrow' e
      · have := (hd1.lt.2 _ e).1; omega
    clear c0 f0 E2 E3 h hd hch hq hqd E1
    have H1 := Lib.hid hch1
    clear hch1
    have c0 := Lib.cell_of_heap h1
    have f0 := Lib.frozen_of_heap h1
    have c3 := Lib.cell_of_heap h3
    have f3 := Lib.frozen_of_heap h3
    go_wp2_with (at_builtin; refine Lib.wpList_append_run _ rfl _ _ _ _ rfl _ _ rfl rfl _ _ hrun ?_)
    refine bodyPost_end (v := .tuple #[]) (by simp [results, Tryz.results97]) rfl ?_
    refine ⟨rfl, row', _, g', heap_set h3 _, hd3.ext ((Ext.refl (fun b => b = p) W').setAt (b := p) (.inr rfl) _) (fun e => hpd e.symm) (fun k hk e => hrowp (by rw [hk, e])), hch'.ext ((Ext.refl (fun b => b = p) W').setAt (b := p) (.inr rfl) _) ?_, hr1, ?_, hrg', E13.setAt (.inr (.inl rfl)) _⟩
    · rcases hg' with rfl | hg'
      · exact hgp
      · omega
    · rcases hg' with rfl | hg'
      · exact .inl rfl
      · exact .inr (by omega)

end Go.Proofs.YtocjfcgailkfjaaGreatDoor
end
