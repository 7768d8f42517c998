/- readLength at the short form, the indefinite form and the long forms. readHeader at a tag below 31 and any form of length. bytes.growSlice: a new row that begins with the old bytes (after the kit's worked text on bytes.growSlice). bytes.Buffer: what a buffer that has only been written holds; tryGrowByReslice. bytes.Buffer.grow where there is no room. -/
import Derived.Test.YtocjfcgailkfjaaGreatDoorMB1
import Derived.Lib.AppendZeros
import Derived.Defers
import Derived.Recover
import Derived.Deep.RegionWith
import Derived.Deep.RegionHeld3
import Derived.Deep.DrawnRows
import Derived.Deep.DeepCutAuto

set_option linter.unusedVariables false
set_option linter.unusedSimpArgs false
set_option linter.unusedSectionVars false

section
namespace Go.Proofs.YtocjfcgailkfjaaGreatDoor
open Go.RowKit

theorem and128 : ∀ n : Fin 256, bits .and .u8 ((n.val : Nat) : Int) 128 = ((n.val / 128 * 128 : Nat) : Int) := by decide +kernel
theorem and127 : ∀ n : Fin 256, bits .and .i64 ((n.val : Nat) : Int) 127 = ((n.val % 128 : Nat) : Int) := by decide +kernel

set_option maxRecDepth 100000 in
set_option maxHeartbeats 400000 in
theorem readLength_short (w : World) (k : Bool) (r g : Nat) (x : UInt8) (rest : List UInt8) (n : Nat) (h : IsRd k w r g (x :: rest)) (hx : Hid (x.toNat = n)) (hn : n < 128) :
    Calls Tryz.prog 156 #[.iface (rdT k) (.pointer (some ⟨r, 0, none⟩))] w fun e w' => e = .returned (.tuple #[.int .i64 n, .int .i64 1, .nilIface]) ∧
      IsRd k w' r g rest ∧ Ext (fun b => b = r) w w' := by
  go_enter Tryz.func156, Tryz.ntmps156
  go_wp2_with fail
  refine (readByte_any w k r g x rest h).mono ?_
  rintro e w' ⟨rfl, h1, E1⟩
  rw [hx.out]
  have h128 : bits .and .u8 (n : Int) 128 = 0 := by
    rw [and128 ⟨n, by omega⟩, show n / 128 * 128 = 0 by omega]; rfl
  have h127 : bits .and .i64 (n : Int) 127 = (n : Int) := by
    rw [and127 ⟨n, by omega⟩, show n % 128 = n by omega]
  go_wp2_with fail
  go_ret3
  exact ⟨rfl, h1, E1⟩

set_option maxRecDepth 100000 in
set_option maxHeartbeats 400000 in
theorem readLength_ind (w : World) (k : Bool) (r g : Nat) (x : UInt8) (rest : List UInt8) (h : IsRd k w r g (x :: rest)) (hx : Hid (x.toNat = 128)) :
    Calls Tryz.prog 156 #[.iface (rdT k) (.pointer (some ⟨r, 0, none⟩))] w fun e w' => e = .returned (.tuple #[.int .i64 (-1), .int .i64 1, .nilIface]) ∧
      IsRd k w' r g rest ∧ Ext (fun b => b = r) w w' := by
  go_enter Tryz.func156, Tryz.ntmps156
  go_wp2_with fail
  refine (readByte_any w k r g x rest h).mono ?_
  rintro e w' ⟨rfl, h1, E1⟩
  rw [hx.out]
  go_wp2_with fail
  go_ret3
  exact ⟨rfl, h1, E1⟩

/-- The number that bytes tell, the high one first. -/
def beNat (l : List UInt8) : Nat := l.foldl (fun a x => a * 256 + x.toNat) 0
theorem beNat_snoc (l : List UInt8) (x : UInt8) : beNat (l ++ [x]) = beNat l * 256 + x.toNat := by simp [beNat]
theorem beNat_lt (l : List UInt8) : beNat l < 256 ^ l.length := by
  have h : ∀ (l : List UInt8) (a : Nat), l.foldl (fun a x => a * 256 + x.toNat) a < (a + 1) * 256 ^ l.length := by
    intro l
    induction l with
    | nil => intro a; simp
    | cons x l ih =>
      intro a
      refine Nat.lt_of_lt_of_le (ih _) ?_
      have hx := x.toNat_lt
      rw [List.length_cons, Nat.pow_succ]
      calc (a * 256 + x.toNat + 1) * 256 ^ l.length ≤ ((a + 1) * 256) * 256 ^ l.length := Nat.mul_le_mul_right _ (by omega)
        _ = (a + 1) * (256 ^ l.length * 256) := by rw [Nat.mul_assoc, Nat.mul_comm 256]
  have := h l 0
  unfold beNat
  simpa using this
theorem beNat_mono (l : List UInt8) (j : Nat) : beNat (l.take j) ≤ beNat l := by
  have h : ∀ (l : List UInt8) (a : Nat), a ≤ l.foldl (fun a x => a * 256 + x.toNat) a := by
    intro l
    induction l with
    | nil => intro a; simp
    | cons x l ih => intro a; exact Nat.le_trans (by show a ≤ a * 256 + x.toNat; omega) (ih _)
  conv => rhs; rw [← List.take_append_drop j l]
  unfold beNat
  rw [List.foldl_append]
  exact h _ _

theorem or_byte (v z : Nat) (hv : v ≤ 2147483647) (hz : z < 256) : bits .or .u64 ((v : Int) * 256) (z : Int) = ((v * 256 + z : Nat) : Int) := by
  have h := u64_or_nat (v * 256) z (by omega) (by omega)
  rw [Int.natCast_mul] at h
  rw [show ((v : Int) * 256) = (v : Int) * ((256 : Nat) : Int) from rfl, h, Nat.mul_comm v 256, show (256 : Nat) = 2 ^ 8 from rfl, Nat.two_pow_add_eq_or_of_lt (by omega)]

set_option maxRecDepth 100000 in
set_option maxHeartbeats 400000 in
theorem readLength_long (w : World) (k : Bool) (r g : Nat) (x : UInt8) (kk : Nat) (bs rest : List UInt8) (h : IsRd k w r g (x :: (bs ++ rest))) (hx : Hid (x.toNat = 128 + kk)) (hk0 : 0 < kk) (hk8 : kk ≤ 8) (hbs : Hid (bs.length = kk)) (n : Nat) (hn : Hid (beNat bs = n)) (hn31 : n ≤ 2147483647) :
    Calls Tryz.prog 156 #[.iface (rdT k) (.pointer (some ⟨r, 0, none⟩))] w fun e w' => e = .returned (.tuple #[.int .i64 n, .int .i64 (kk + 1), .nilIface]) ∧
      IsRd k w' r g rest ∧ Ext (fun b => b = r) w w' := by
  go_enter Tryz.func156, Tryz.ntmps156
  go_wp2_with fail
  refine (readByte_any w k r g x _ h).mono ?_
  rintro e w' ⟨rfl, h1, E1⟩
  obtain ⟨y, hy⟩ : ∃ y : Nat, y = x.toNat := ⟨_, rfl⟩
  have hy128 : 128 < y := by have := hx.out; omega
  have hy255 : y < 255 := by have := hx.out; omega
  have hyk : y % 128 = kk := by have := hx.out; omega
  rw [← hy]
  have h128 : bits .and .u8 (y : Int) 128 = 128 := by
    rw [and128 ⟨y, by omega⟩, show y / 128 * 128 = 128 by omega]; rfl
  have h127 : bits .and .i64 (y : Int) 127 = (kk : Int) := by
    rw [and127 ⟨y, by omega⟩]; show ((y % 128 : Nat) : Int) = _; rw [hyk]
  clear hy hyk
  have h255 : ((y : Int) == 255) = false := by simp; omega
  have h128' : ((y : Int) == 128) = false := by simp; omega
  go_wp2_with fail
  clear h128 h127
  go_loopw [3, 7, 8] (fun rd ln i W => ∃ j : Nat, j ≤ kk ∧ rd = .int .i64 (j + 1) ∧ ln = .int .u64 (beNat (bs.take j) : Nat) ∧ i = .int .i64 j ∧ IsRd k W r g (bs.drop j ++ rest) ∧ Ext (fun b => b = r) w W) (fun _ _ i _ => kk - (intOf i).toNat)
  case atStart => exact ⟨0, by omega, rfl, rfl, rfl, h1, E1⟩
  case round =>
    obtain ⟨j, hj, rfl, rfl, rfl, h2, E2⟩ := hrel
    have hv31 : beNat (bs.take j) ≤ 2147483647 := by have := beNat_mono bs j; have := hn.out; omega
    by_cases hlt : j < kk
    · have hlti : (j : Int) < (kk : Int) := by omega
      obtain ⟨z, hz⟩ : ∃ z, bs[j]? = some z := ⟨bs[j]'(by have := hbs.out; omega), List.getElem?_eq_getElem (by have := hbs.out; omega)⟩
      have hdr : bs.drop j = z :: bs.drop (j + 1) := by
        rw [List.drop_eq_getElem_cons (by have := hbs.out; omega)]; congr 1; exact Option.some.inj ((List.getElem?_eq_getElem _).symm.trans hz)
      rw [hdr] at h2
      have htk : beNat (bs.take (j + 1)) = beNat (bs.take j) * 256 + z.toNat := by
        rw [← beNat_snoc, List.take_add_one, hz]; rfl
      have Htk := Lib.hid htk
      clear htk hdr hz
      have hor := or_byte (beNat (bs.take j)) z.toNat hv31 z.toNat_lt
      rw [← Htk.out] at hor
      have hwr : IntKind.u64.wrap (z.toNat : Int) = (z.toNat : Int) := wrapB ⟨z.toNat, z.toNat_lt⟩
      clear Htk
      obtain ⟨v1, hv1⟩ : ∃ v1, v1 = beNat (bs.take (j + 1)) := ⟨_, rfl⟩
      rw [← hv1] at hor
      have Hv1 := Lib.hid hv1
      clear hv1
      generalize beNat (bs.take j) = v at *
      go_wp2_with fail
      refine (readByte_any wr k r g z _ h2).mono ?_
      rintro e w2 ⟨rfl, h3, E3⟩
      go_wp2_with fail
      go_roundw
      case rel => exact ⟨j + 1, by omega, by go_num, by rw [Hv1.out], by go_num, h3, E2.trans E3⟩
      case measure => simp [intOf]; omega
    · have hge : ¬ (j : Int) < (kk : Int) := by omega
      have hv : beNat (bs.take j) = n := by rw [List.take_of_length_le (by have := hbs.out; omega)]; exact hn.out
      rw [hv]
      obtain rfl : j = kk := by omega
      have hd0 : bs.drop j ++ rest = rest := by rw [List.drop_of_length_le (by have := hbs.out; omega)]; rfl
      rw [hd0] at h2
      clear hv hv31 hd0
      go_wp2_with fail
      go_ret3
      exact ⟨rfl, h2, E2⟩

end Go.Proofs.YtocjfcgailkfjaaGreatDoor
end

section
namespace Go.Proofs.YtocjfcgailkfjaaGreatDoor
open Go.RowKit

/-- The bytes that tell a length (-1: none is told). -/
inductive LenForm : Int → List UInt8 → Prop
  | short (x : UInt8) (h : x.toNat < 128) : LenForm (x.toNat : Int) [x]
  | ind (x : UInt8) (h : x.toNat = 128) : LenForm (-1) [x]
  | long (x : UInt8) (bs : List UInt8) (h : x.toNat = 128 + bs.length) (h0 : 0 < bs.length) (h8 : bs.length ≤ 8) (hn : beNat bs ≤ 2147483647) : LenForm (beNat bs : Int) (x :: bs)

theorem LenForm.bounds {n : Int} {lf : List UInt8} (h : LenForm n lf) : -1 ≤ n ∧ n ≤ 2147483647 ∧ 1 ≤ lf.length ∧ lf.length ≤ 9 := by
  cases h with
  | short x h => simp; omega
  | ind x h => simp
  | long x bs h h0 h8 hn => simp; omega

theorem readLength_any (w : World) (k : Bool) (r g : Nat) (n : Int) (lf rest : List UInt8) (hl : LenForm n lf) (h : IsRd k w r g (lf ++ rest)) :
    Calls Tryz.prog 156 #[.iface (rdT k) (.pointer (some ⟨r, 0, none⟩))] w fun e w' => e = .returned (.tuple #[.int .i64 n, .int .i64 (lf.length : Nat), .nilIface]) ∧
      IsRd k w' r g rest ∧ Ext (fun b => b = r) w w' := by
  cases hl with
  | short x hx => exact readLength_short w k r g x rest x.toNat h rfl hx
  | ind x hx => exact readLength_ind w k r g x rest h hx
  | long x bs hx h0 h8 hn =>
    have := readLength_long w k r g x bs.length bs rest h hx h0 h8 rfl (beNat bs) rfl hn
    rwa [show ((bs.length : Int) + 1) = (((x :: bs).length : Nat) : Int) by simp] at this

set_option maxRecDepth 100000 in
set_option maxHeartbeats 400000 in
theorem readHeader_any (w : World) (k : Bool) (r g : Nat) (x : UInt8) (n : Int) (lf rest : List UInt8) (cc bt tag m : Nat) (hl : LenForm n lf) (h : IsRd k w r g (x :: (lf ++ rest))) (hx : Hid (x.toNat = cc + bt + tag)) (hc : Hid (cc % 64 = 0)) (hb : Hid (bt = 0 ∨ bt = 32)) (ht : tag < 31)
    (hnb : Hid (n = -1 → bt = 32)) (hm : Hid (m = lf.length + 1)) :
    Calls Tryz.prog 134 #[.iface (rdT k) (.pointer (some ⟨r, 0, none⟩))] w fun e w' => e = .returned (.tuple #[.agg #[.int .u8 cc, .int .u8 bt, .int .u64 tag], .int .i64 n, .int .i64 m, .nilIface]) ∧
      IsRd k w' r g rest ∧ Ext (fun b => b = r) w w' := by
  obtain ⟨hr, hg, hgr⟩ := h.lt
  obtain ⟨hn1, hn2, hl1, hl9⟩ := hl.bounds
  go_enter Tryz.func134, Tryz.ntmps134
  go_wp2_with fail
  refine cutC (fun W => W.heap[w.heap.size]? = some (.cells #[.int .u8 0, .int .u8 0, .int .u64 0] 216 (0, 0)) ∧ W.heap[w.heap.size + 1]? = some (.cells #[.int .u8 0, .int .u8 0, .int .u64 0] 216 (0, 0)) ∧ Ext none_ w W) (two_new w _ _) ?_
  rintro W ⟨ha, hb1, E1⟩
  refine (readIdentifier_any W k r g x _ cc bt tag (h.ext E1 (fun h => h) (fun h => h)) hx hc hb ht).mono ?_
  rintro e w1 ⟨rfl, h1, E2⟩
  have ha2 := E2.get ha (by omega)
  have hb2 := E2.get hb1 (by omega)
  clear ha hb1
  have ca := Lib.cell_of_heap ha2
  have cb := Lib.cell_of_heap hb2
  have fa := Lib.frozen_of_heap ha2
  have fb := Lib.frozen_of_heap hb2
  go_wp2_with fail
  clear ca cb fa fb
  refine cutC (fun W' => W'.heap[w.heap.size]? = some (.cells #[.int .u8 cc, .int .u8 bt, .int .u64 tag] 216 (0, 0)) ∧ IsRd k W' r g (lf ++ rest) ∧ Ext (fun b => b = r) w W') ?_ ?_
  · refine ⟨?_, ?_, ?_⟩
    · exact heap_set (heap_set (heap_set (heap_set_ne (heap_set_ne (heap_set_ne ha2 (by omega)) (by omega)) (by omega)) _) _) _
    · refine h1.ext (S := fun b => w.heap.size ≤ b) ?_ (by omega) (by omega)
      repeat refine Ext.setAt ?_ (.inr (by omega)) _
      exact Ext.refl _ _
    · repeat refine Ext.setAt ?_ (.inl (by omega)) _
      exact E1.zero.trans E2
  clear ha2 hb2 h1 E1 E2
  rintro W2 ⟨ha, h1, E1⟩
  refine (readLength_any W2 k r g n lf rest hl h1).mono ?_
  rintro e w2 ⟨rfl, h2, E2⟩
  have ha2 := E2.get ha (by omega)
  have ca := Lib.cell_of_heap ha2
  have fa := Lib.frozen_of_heap ha2
  have E3 := E1.trans E2
  clear E1 E2 h1 ha
  by_cases hneg : n = -1
  · obtain rfl : bt = 32 := hnb.out hneg
    subst hneg
    go_wp2_with fail
    refine bodyPost_ret (v := .tuple #[.agg #[.int .u8 cc, .int .u8 (32 : Nat), .int .u64 tag], .int .i64 (-1), .int .i64 m, .nilIface]) (by simp [results, Tryz.results134, go_sem, ca, fa, hm.out]; omega) rfl ⟨rfl, ?_, ?_⟩
    · refine h2.ext (S := fun b => w.heap.size ≤ b) ?_ (by omega) (by omega)
      repeat refine Ext.setAt ?_ (.inr (by omega)) _
      exact Ext.refl _ _
    · repeat refine Ext.setAt ?_ (.inl (by omega)) _
      exact E3
  · have hnn : ¬ (n == -1) = true := by simpa using hneg
    go_wp2_with fail
    refine bodyPost_ret (v := .tuple #[.agg #[.int .u8 cc, .int .u8 bt, .int .u64 tag], .int .i64 n, .int .i64 m, .nilIface]) (by simp [results, Tryz.results134, go_sem, ca, fa, hm.out]; omega) rfl ⟨rfl, ?_, ?_⟩
    · refine h2.ext (S := fun b => w.heap.size ≤ b) ?_ (by omega) (by omega)
      repeat refine Ext.setAt ?_ (.inr (by omega)) _
      exact Ext.refl _ _
    · repeat refine Ext.setAt ?_ (.inl (by omega)) _
      exact E3

end Go.Proofs.YtocjfcgailkfjaaGreatDoor
end

section
namespace Go.Proofs.YtocjfcgailkfjaaGreatDoor
open Go.RowKit

theorem info5 : (Tryz.prog.info? 5).map (fun i => (i.zero, i.size, i.bytes)) = some (some (.int .u8 0), 1, 1) := by kernel_rfl

theorem growSlice_catch_idle (w : World) :
    CallsD Tryz.prog 165 #[] .returning w fun e u' w' => e = .returned (.tuple #[]) ∧ u' = .returning ∧ w' = w := by
  have hnn : ∀ w, (binOp .neq 20 .nilIface .nilIface).run Tryz.prog w = .ok (.bool false) w := fun w => by kernel_rfl
  refine callsD_of_wpS Tryz.func165 rfl fun c₀ cs hu => ?_
  apply wpS_seq
  apply wpS_region
  simp [wpOpsS, go_sem, recoverD, hu, hnn, Tryz.ntmps165, Exit.thenS]
  refine wpS_cond (t := false) (by simp [Act.eval, Array.replicate]) ?_
  simp only [Bool.false_eq_true, if_false]
  refine wpS_of_wp (wp_skip ?_)
  cases c₀
  simp_all [bodyPostS, results, Tryz.results165]

/-- append(nil, make([]byte, n)...): a new row of at least n cells. -/
theorem append_zeros (w : World) (n : Nat) (h0 : 0 < n) (hn : n ≤ 281474976710656) :
    ∃ cap Z, Z.size = cap ∧ n ≤ cap ∧ cap ≤ maxLen ∧
      (Builtin.append_ #[26, 3] 26 #[.slice none 0 0, .int .i64 (n : Int)]).run Tryz.prog w = .ok (.slice (some ⟨w.heap.size, 0, none⟩) n cap) (w.drew.alloc (.cells Z 5)) := by
  obtain ⟨i0, hi, hz0, hz1, hz2⟩ := info_parts info5
  have happ := Lib.run_append_nil_zeros (P := Tryz.prog) w 26 3 26 5 i0 (.int .u8 0) .i64 .i64 Tryz.underlying26 Tryz.underlying3 hi hz0 n h0 (by omega) (by omega) (by rw [hz2]; omega)
  refine ⟨_, _, ?_, grownCap_ge w n 0 5, grownCap_le_maxLen w n 0 5 (by unfold maxLen; omega), happ⟩
  have := grownCap_ge w n 0 5
  simp [size_zeroCells, Value.cells]; omega

set_option maxHeartbeats 1000000 in
set_option maxRecDepth 100000 in
theorem growSlice_row (g l c n : Nat) (bs : List UInt8) (w : World) (hB : BytesAt w g 0 bs) (hl : bs.length = l) (hlc : l ≤ c) (hn : 1 ≤ n) (hlim : l + n ≤ 140737488355328) (hc2 : c ≤ 140737488355328) :
    Calls Tryz.prog 147 #[.slice (some ⟨g, 0, none⟩) l c, .int .i64 n] w fun e w' => ∃ d cap cur, e = .returned (.slice (some ⟨d, 0, none⟩) l cap) ∧ w'.heap[d]? = some (.cells cur 5 (0, 0)) ∧ w.heap.size ≤ d ∧
      cur.size = cap ∧ BytesAt w' d 0 bs ∧ l + n ≤ cap ∧ cap ≤ maxLen ∧ Ext none_ w w' := by
  by_cases hC : l + n < 2 * c
  · obtain ⟨cap, Z, hZs, hge, hle, happ⟩ := append_zeros w (2 * c) (by omega) (by omega)
    rw [show (((2 * c : Nat)) : Int) = 2 * (c : Int) by omega] at happ
    have E1 : Ext none_ w (w.alloc (.cells Z 5)).drew := ((Ext.refl none_ w).alloc _).drew
    have hB1 := hB.ext E1 (fun h => h)
    obtain ⟨cur', hcur, hcp⟩ := copy_wrote (w.alloc (.cells Z 5)).drew 3 w.heap.size 0 (2 * c) cap g 0 l c bs Z 5 l (by omega) hl.symm hB1 (heap_new w _) (by omega)
    go_enter_defers Tryz.func147, Tryz.ntmps147
    go_wp2_with (at_builtin; refine Lib.wpList_append_run _ rfl _ _ _ _ rfl _ _ rfl rfl _ _ happ ?_)
    refine leaves_cons (f := 165) (args := #[]) (by simp) (by kernel_rfl) ?_
    refine (growSlice_catch_idle _).mono ?_
    rintro e u' w'' ⟨rfl, rfl, rfl⟩
    refine ⟨_, results_tmp rfl _ _ _, ?_⟩
    have hd := setRow_heap (w.alloc (.cells Z 5)).drew w.heap.size Z cur' 5 (0, 0) (heap_new w _)
    refine ⟨w.heap.size, cap, cur', rfl, hd, Nat.le_refl _, by rw [hcur.size, hZs], ⟨cur', 5, (0, 0), hd, ?_⟩, by omega, hle, E1.setRow (fun h => absurd h (Nat.lt_irrefl _)) _⟩
    have := hcur.inn
    rwa [List.take_of_length_le (by omega)] at this
  · obtain ⟨cap, Z, hZs, hge, hle, happ⟩ := append_zeros w (l + n) (by omega) (by omega)
    rw [show (((l + n : Nat)) : Int) = (l : Int) + (n : Int) by omega] at happ
    have E1 : Ext none_ w (w.alloc (.cells Z 5)).drew := ((Ext.refl none_ w).alloc _).drew
    have hB1 := hB.ext E1 (fun h => h)
    obtain ⟨cur', hcur, hcp⟩ := copy_wrote (w.alloc (.cells Z 5)).drew 3 w.heap.size 0 (l + n) cap g 0 l c bs Z 5 l (by omega) hl.symm hB1 (heap_new w _) (by omega)
    go_enter_defers Tryz.func147, Tryz.ntmps147
    go_wp2_with (at_builtin; refine Lib.wpList_append_run _ rfl _ _ _ _ rfl _ _ rfl rfl _ _ happ ?_)
    refine leaves_cons (f := 165) (args := #[]) (by simp) (by kernel_rfl) ?_
    refine (growSlice_catch_idle _).mono ?_
    rintro e u' w'' ⟨rfl, rfl, rfl⟩
    refine ⟨_, results_tmp rfl _ _ _, ?_⟩
    have hd := setRow_heap (w.alloc (.cells Z 5)).drew w.heap.size Z cur' 5 (0, 0) (heap_new w _)
    refine ⟨w.heap.size, cap, cur', rfl, hd, Nat.le_refl _, by rw [hcur.size, hZs], ⟨cur', 5, (0, 0), hd, ?_⟩, by omega, hle, E1.setRow (fun h => absurd h (Nat.lt_irrefl _)) _⟩
    have := hcur.inn
    rwa [List.take_of_length_le (by omega)] at this

set_option maxHeartbeats 1000000 in
set_option maxRecDepth 100000 in
theorem growSlice_nil (n : Nat) (w : World) (hn : 1 ≤ n) (hlim : n ≤ 140737488355328) :
    Calls Tryz.prog 147 #[.slice none 0 0, .int .i64 n] w fun e w' => ∃ d cap cur, e = .returned (.slice (some ⟨d, 0, none⟩) 0 cap) ∧ w'.heap[d]? = some (.cells cur 5 (0, 0)) ∧ w.heap.size ≤ d ∧
      cur.size = cap ∧ n ≤ cap ∧ cap ≤ maxLen ∧ Ext none_ w w' := by
  obtain ⟨cap, Z, hZs, hge, hle, happ⟩ := append_zeros w n (by omega) (by omega)
  have hcp := run_copy_nil (P := Tryz.prog) (w.alloc (.cells Z 5)).drew 26 26 3 5 ⟨w.heap.size, 0, none⟩ n cap Tryz.underlying26 (by kernel_rfl)
  go_enter_defers Tryz.func147, Tryz.ntmps147
  go_wp2_with (at_builtin; refine Lib.wpList_append_run _ rfl _ _ _ _ rfl _ _ rfl rfl _ _ happ ?_)
  refine leaves_cons (f := 165) (args := #[]) (by simp) (by kernel_rfl) ?_
  refine (growSlice_catch_idle _).mono ?_
  rintro e u' w'' ⟨rfl, rfl, rfl⟩
  refine ⟨_, results_tmp rfl _ _ _, ?_⟩
  exact ⟨w.heap.size, cap, Z, rfl, heap_new w _, Nat.le_refl _, hZs, hge, hle, ((Ext.refl none_ w).alloc _).drew⟩

end Go.Proofs.YtocjfcgailkfjaaGreatDoor
end

section
namespace Go.Proofs.YtocjfcgailkfjaaGreatDoor
open Go.RowKit

/-- A bytes.Buffer at block d that has only been written and holds the bytes bs; 'row' is the block of its bytes. -/
def BufAt (w : World) (d : Nat) (row : Option Nat) (bs : List UInt8) : Prop :=
  ∃ lr : Int, (row = none ∧ bs = [] ∧ w.heap[d]? = some (.cells #[.slice none 0 0, .int .i64 0, .int .i8 lr] 208 (0, 0))) ∨
    ∃ g cap cur, row = some g ∧ g ≠ d ∧ w.heap[d]? = some (.cells #[.slice (some ⟨g, 0, none⟩) bs.length cap, .int .i64 0, .int .i8 lr] 208 (0, 0)) ∧ w.heap[g]? = some (.cells cur 5 (0, 0)) ∧ cur.size = cap ∧ bs.length ≤ cap ∧ cap ≤ 9223372036854775807 ∧
      ∀ (j : Nat) x, bs[j]? = some x → cur[j]? = some (.int .u8 x.toNat)

theorem BufAt.lt {w : World} {d : Nat} {row : Option Nat} {bs : List UInt8} (h : BufAt w d row bs) : d < w.heap.size ∧ ∀ g, row = some g → g < w.heap.size ∧ g ≠ d := by
  obtain ⟨lr, ⟨rfl, rfl, h⟩ | ⟨g, cap, cur, rfl, hgd, h, hg, -⟩⟩ := h
  · exact ⟨lt_of_block h, fun _ e => by cases e⟩
  · exact ⟨lt_of_block h, fun _ e => by cases e; exact ⟨lt_of_block hg, hgd⟩⟩
theorem BufAt.ext {S : Nat → Prop} {w w' : World} {d : Nat} {row : Option Nat} {bs : List UInt8} (h : BufAt w d row bs) (e : Ext S w w') (hd : ¬ S d) (hr : ∀ g, row = some g → ¬ S g) : BufAt w' d row bs := by
  obtain ⟨lr, ⟨rfl, rfl, h⟩ | ⟨g, cap, cur, rfl, hgd, h, hg, r⟩⟩ := h
  · exact ⟨lr, .inl ⟨rfl, rfl, e.get h hd⟩⟩
  · exact ⟨lr, .inr ⟨g, cap, cur, rfl, hgd, e.get h hd, e.get hg (hr _ rfl), r⟩⟩

set_option maxHeartbeats 400000 in
theorem tryGrow_room (w : World) (d g l cap n : Nat) (lr : Int) (h : w.heap[d]? = some (.cells #[.slice (some ⟨g, 0, none⟩) l cap, .int .i64 0, .int .i8 lr] 208 (0, 0))) (hr : l + n ≤ cap) (hc : cap ≤ 9223372036854775807) :
    Calls Tryz.prog 119 #[.pointer (some ⟨d, 0, none⟩), .int .i64 n] w fun e w' => e = .returned (.tuple #[.int .i64 l, .bool true]) ∧ w' = w.setCell ⟨d, 0, none⟩ (.slice (some ⟨g, 0, none⟩) (l + n) cap) := by
  have c0 := Lib.cell_of_heap h
  have f0 := Lib.frozen_of_heap h
  have h1 : (n : Int) ≤ (cap : Int) - (l : Int) := by omega
  go_enter Tryz.func119, Tryz.ntmps119
  go_wp2
  go_ret2
  exact ⟨rfl, rfl⟩

set_option maxHeartbeats 400000 in
theorem tryGrow_none (w : World) (d : Nat) (a : Option Addr) (l cap n : Nat) (lr : Int) (h : w.heap[d]? = some (.cells #[.slice a l cap, .int .i64 0, .int .i8 lr] 208 (0, 0))) (hr : cap < l + n) (hlc : l ≤ cap) (hc : cap ≤ 9223372036854775807) :
    Calls Tryz.prog 119 #[.pointer (some ⟨d, 0, none⟩), .int .i64 n] w fun e w' => e = .returned (.tuple #[.int .i64 0, .bool false]) ∧ w' = w := by
  have c0 := Lib.cell_of_heap h
  have f0 := Lib.frozen_of_heap h
  have h1 : ¬ (n : Int) ≤ (cap : Int) - (l : Int) := by omega
  go_enter Tryz.func119, Tryz.ntmps119
  go_wp2
  go_ret2
  exact ⟨rfl, rfl⟩

set_option maxHeartbeats 400000 in
theorem tryGrow_nil0 (w : World) (d : Nat) (lr : Int) (h : w.heap[d]? = some (.cells #[.slice none 0 0, .int .i64 0, .int .i8 lr] 208 (0, 0))) :
    Calls Tryz.prog 119 #[.pointer (some ⟨d, 0, none⟩), .int .i64 0] w fun e w' => e = .returned (.tuple #[.int .i64 0, .bool true]) ∧ w' = w.setCell ⟨d, 0, none⟩ (.slice none 0 0) := by
  have c0 := Lib.cell_of_heap h
  have f0 := Lib.frozen_of_heap h
  go_enter Tryz.func119, Tryz.ntmps119
  go_wp2
  go_ret2
  exact ⟨rfl, rfl⟩

set_option maxHeartbeats 400000 in
theorem bufLen_any (w : World) (d : Nat) (a : Option Addr) (l cap : Nat) (x : Value) (h : w.heap[d]? = some (.cells #[.slice a l cap, .int .i64 0, x] 208 (0, 0))) (hl : l ≤ 9223372036854775807) :
    Calls Tryz.prog 84 #[.pointer (some ⟨d, 0, none⟩)] w fun e w' => e = .returned (.int .i64 l) ∧ Same w w' := by
  have c0 := Lib.cell_of_heap h
  go_enter Tryz.func84, Tryz.ntmps84
  go_wp2
  go_quiet (fail)
  go_wp2
  go_ret
  exact ⟨rfl, Same.of _⟩

end Go.Proofs.YtocjfcgailkfjaaGreatDoor
end

section
namespace Go.Proofs.YtocjfcgailkfjaaGreatDoor
open Go.RowKit
attribute [local go_sem ↓] Go.wp_at_zero Go.wp_at_succ

set_option maxHeartbeats 400000 in
set_option maxRecDepth 100000 in
theorem grow_small (w : World) (d n : Nat) (lr : Int) (h : w.heap[d]? = some (.cells #[.slice none 0 0, .int .i64 0, .int .i8 lr] 208 (0, 0))) (hn0 : 0 < n) (hn : n ≤ 64) :
    Calls Tryz.prog 120 #[.pointer (some ⟨d, 0, none⟩), .int .i64 n] w fun e w' => e = .returned (.int .i64 0) ∧
      ∃ g cap cur, w'.heap[d]? = some (.cells #[.slice (some ⟨g, 0, none⟩) n cap, .int .i64 0, .int .i8 lr] 208 (0, 0)) ∧ w'.heap[g]? = some (.cells cur 5 (0, 0)) ∧ cur.size = cap ∧ w.heap.size ≤ g ∧ n ≤ cap ∧ cap ≤ 9223372036854775807 ∧ Ext (fun b => b = d) w w' := by
  have hq := fun w => Lib.run_eql_slice_nil (P := Tryz.prog) w 26 5 none 0 0 0 0 Tryz.underlying26
  have hmk : ∀ w, (Instr.makeSlice 26 (.int .i64 (n : Int)) (.int .i64 64)).run Tryz.prog w = .ok (.slice (some ⟨w.heap.size, 0, none⟩) n 64) (w.alloc (.cells (zbytes 64) 5)) := fun w => make_bytes n 64 hn (by omega) w
  go_enter Tryz.func120, Tryz.ntmps120
  go_wp2_with fail
  refine (bufLen_any w d none 0 0 _ h (by omega)).mono ?_
  rintro e w1 ⟨rfl, hs⟩
  have E1 : Ext (fun b => b = d) w w1 := hs.ext
  have h1 := hs.get h
  clear h hs
  have c0 := Lib.cell_of_heap h1
  have f0 := Lib.frozen_of_heap h1
  have hd0 := lt_of_block h1
  go_wp2_with fail
  refine (tryGrow_none w1 d none 0 0 n lr h1 (by omega) (by omega) (by omega)).mono ?_
  rintro e w' ⟨rfl, rfl⟩
  go_wp2_with fail
  go_ret
  have hne : w'.heap.size ≠ d := by omega
  refine ⟨rfl, w'.heap.size, 64, zbytes 64, heap_old (heap_set h1 _), ?_, zbytes_size 64, E1.size, hn, by omega, (E1.setAt (.inr rfl) _).alloc _⟩
  have := heap_new (w'.setCell ⟨d, 0, none⟩ (.slice (some ⟨w'.heap.size, 0, none⟩) n 64)) (.cells (zbytes 64) 5)
  rwa [World.size_setCell] at this

set_option maxHeartbeats 800000 in
set_option maxRecDepth 100000 in
theorem grow_nil (w : World) (d n : Nat) (lr : Int) (h : w.heap[d]? = some (.cells #[.slice none 0 0, .int .i64 0, .int .i8 lr] 208 (0, 0))) (hn : 64 < n) (hlim : n ≤ 140737488355328) :
    Calls Tryz.prog 120 #[.pointer (some ⟨d, 0, none⟩), .int .i64 n] w fun e w' => e = .returned (.int .i64 0) ∧
      ∃ g cap cur, w'.heap[d]? = some (.cells #[.slice (some ⟨g, 0, none⟩) n cap, .int .i64 0, .int .i8 lr] 208 (0, 0)) ∧ w'.heap[g]? = some (.cells cur 5 (0, 0)) ∧ cur.size = cap ∧ w.heap.size ≤ g ∧ n ≤ cap ∧ cap ≤ 9223372036854775807 ∧ Ext (fun b => b = d) w w' := by
  have hq := fun w => Lib.run_eql_slice_nil (P := Tryz.prog) w 26 5 none 0 0 0 0 Tryz.underlying26
  go_enter Tryz.func120, Tryz.ntmps120
  go_wp2_with fail
  refine (bufLen_any w d none 0 0 _ h (by omega)).mono ?_
  rintro e w1 ⟨rfl, hs⟩
  have E1 : Ext (fun b => b = d) w w1 := hs.ext
  have h1 := hs.get h
  clear h hs
  have c0 := Lib.cell_of_heap h1
  have f0 := Lib.frozen_of_heap h1
  have hd0 := lt_of_block h1
  go_wp2_with fail
  refine (tryGrow_none w1 d none 0 0 n lr h1 (by omega) (by omega) (by omega)).mono ?_
  rintro e w2 ⟨rfl, rfl⟩
  go_wp2_with fail
  have hn1 : 1 ≤ n := by omega
  have s0 : w2.cell? ⟨d, 0, none⟩ = some (.slice none 0 0) := by rw [c0]; rfl
  have s1 : w2.cell? ⟨d, 1, none⟩ = some (.int .i64 0) := by rw [c0]; rfl
  have hwn : IntKind.i64.wrap (n : Int) = (n : Int) := IntWalk.i64_in _ (by omega)
  go_cut [] from 9 (fun W => ∃ g cap cur, W.heap[d]? = some (.cells #[.slice (some ⟨g, 0, none⟩) 0 cap, .int .i64 0, .int .i8 lr] 208 (0, 0)) ∧ W.heap[g]? = some (.cells cur 5 (0, 0)) ∧ cur.size = cap ∧ w.heap.size ≤ g ∧ n ≤ cap ∧ cap ≤ 9223372036854775807 ∧ g ≠ d ∧ Ext (fun b => b = d) w W)
  case first =>
    go_region_with ((go_at_call 147; refine (growSlice_nil n _ hn1 hlim).mono ?_; rintro e w3 ⟨g, cap, cur, rfl, hg, hgl, hcs, hge, hle, E3⟩; have k0 := E3.get h1 (fun h => h); have t0 := Lib.cell_of_heap k0; have t1 := Lib.frozen_of_heap k0))
    all_goals
      go_wp2_with fail
      go_meet
      case rel =>
        have hgl' : w2.heap.size ≤ g := hgl
        have := E1.size
        exact ⟨g, cap, cur, heap_set k0 _, heap_set_ne hg (by omega), hcs, by omega, hge, hle, by omega, (E1.drew.trans E3.zero).setAt (.inr rfl) _⟩
  case rest =>
    obtain ⟨g, cap, cur, k0, hg, hcs, hgl, hge, hle, hgd, E3⟩ := hcut
    clear s0 s1 c0 f0
    have c0 := Lib.cell_of_heap k0
    have f0 := Lib.frozen_of_heap k0
    have hnc : (n : Int) ≤ (cap : Int) := by omega
    go_wp2_with fail
    go_ret
    refine ⟨rfl, g, cap, cur, ?_, heap_set_ne (heap_set_ne hg hgd) hgd, hcs, hgl, hge, hle, (E3.setAt (.inr rfl) _).setAt (.inr rfl) _⟩
    exact heap_set (heap_set k0 _) _

end Go.Proofs.YtocjfcgailkfjaaGreatDoor
end
