/- berTexts. BerInt of numbers from 0 to 2^31 - 1; berInteger, berEnumerated. berEnumerated; LdapControl. -/
import Derived.Test.YtocjfcgailkfjaaGreatDoorMG2
import Derived.Lib.AppendZeros

set_option linter.unusedVariables false
set_option linter.unusedSimpArgs false
set_option linter.unusedSectionVars false

section
namespace Go.Proofs.YtocjfcgailkfjaaGreatDoor
open Go.RowKit

/-- A row of texts. -/
def StrRow (w : World) (a : Option Addr) (n : Nat) (l : List (List UInt8)) : Prop :=
  l.length = n ∧ (l = [] ∨ ∃ g o, a = some ⟨g, o, none⟩ ∧ g < w.heap.size ∧ ∀ (j : Nat) s, l[j]? = some s → w.cell? ⟨g, o + j, none⟩ = some (.string (strOf s)))

def octV (s : List UInt8) : Value := .agg #[.int .u8 0, .bool false, .int .u64 4, .string (strOf s), .slice none 0 0]

theorem octV_ber (w : World) (S : Nat → Prop) : ∀ (l : List (List UInt8)), BerVL w S (l.map (T.prim 0 4)) (l.map octV)
  | [] => by simp [BerVL]
  | s :: l => by
    simp only [List.map_cons, BerVL, BerV]
    exact ⟨rfl, octV_ber w S l⟩

set_option maxHeartbeats 800000 in
set_option maxRecDepth 100000 in
theorem berTexts_any (w : World) (a : Option Addr) (n c : Nat) (l : List (List UInt8)) (h : StrRow w a n l) (hn : n ≤ 1000) :
    Calls Tryz.prog 41 #[.slice a n c] w fun e w' => ∃ sa sn sc, e = .returned (.slice sa sn sc) ∧ BerRow w' (fun x => w.heap.size ≤ x) (.slice sa sn sc) (l.map octV) ∧ Ext none_ w w' := by
  obtain ⟨hln, hl⟩ := h
  have HN := Lib.hid hln
  clear hln
  go_enter Tryz.func41, Tryz.ntmps41
  go_wp2_with fail
  go_loopw [3, 5, 8] (fun v3 _ v8 W => ∃ j sa sn sc, j ≤ n ∧ v8 = .int .i64 (j : Nat) ∧ v3 = .slice sa sn sc ∧ Hid (BerRow W (fun x => w.heap.size ≤ x) (.slice sa sn sc) ((l.map octV).take j)) ∧ Ext none_ w W) (fun _ _ v8 _ => n - (intOf v8).toNat)
  case atStart => exact ⟨0, none, 0, 0, by omega, rfl, rfl, Lib.hid (.inl ⟨rfl, by simp⟩), Ext.refl none_ w⟩
  case round =>
    obtain ⟨j, sa, sn, sc, hj, rfl, rfl, H, hE⟩ := hrel
    by_cases hlt : j < n
    · have hji : (j : Int) < (n : Int) := by omega
      obtain ⟨s, hs⟩ : ∃ s, l[j]? = some s := ⟨l[j]'(by have := HN.out; omega), List.getElem?_eq_getElem _⟩
      obtain ⟨g, o, rfl, hgl, hcells⟩ := hl.resolve_left (fun e => by rw [e] at hs; simp at hs)
      have hc1 : wr.cell? ⟨g, o + j, none⟩ = some (.string (strOf s)) := by rw [hE.cell (p := ⟨g, o + j, none⟩) hgl (fun h => h)]; exact hcells j s hs
      have hvs : (l.map octV).take (j + 1) = (l.map octV).take j ++ [octV s] := by
        rw [List.take_add_one]; simp [hs]
      have HV := Lib.hid hvs
      have hlen : ((l.map octV).take j).length ≤ 100000 := by rw [List.length_take]; omega
      clear hs hvs
      go_wp2_with fail
      refine (berOctets_any wr (strOf s)).mono ?_
      rintro e w2 ⟨rfl, E2⟩
      have E3 := (Ext.refl none_ w2).alloc (.cells #[.int .u8 0, .bool false, .int .u64 4, .string (strOf s), .slice none 0 0] 43)
      have hB2 := BerRow.frame (w' := w2.alloc (.cells #[.int .u8 0, .bool false, .int .u64 4, .string (strOf s), .slice none 0 0] 43)) H.out (fun x hx hx2 => ⟨(E2.trans E3).block x hx2 (fun h => h), hx⟩)
      obtain ⟨sa', sn', sc', W', hrun, hB', E4⟩ := append_ber _ _ _ _ w2.heap.size _ _ _ _ _ hB2 (heap_new w2 _) (by simp [Value.oneCell']) hlen
      have hown : ∀ x, (Value.slice sa sn sc).ownBlock = some x → w.heap.size ≤ x := fun x hx => by
        rcases H.out with ⟨e, _⟩ | ⟨g', cap, cur, e, hS, _⟩
        · cases e; simp [Value.ownBlock] at hx
        · cases e; simp [Value.ownBlock] at hx; omega
      have E04 : Ext none_ w W' := ((hE.trans E2).trans E3).trans' E4 (fun x hx h => by have := hown x h; omega)
      have hB'' : BerRow W' (fun x => w.heap.size ≤ x) (.slice sa' sn' sc') ((l.map octV).take (j + 1)) := by
        rw [HV.out]
        refine hB'.frame fun x hx hx2 => ⟨rfl, ?_⟩
        rcases hx with hx | hx
        · exact hown x hx
        · have h1 := hE.size; have h2 := E2.size; simp at hx; omega
      have HB := Lib.hid hB''
      clear hB2 hB' hB'' E4
      go_wp2_with (at_builtin; refine Lib.wpList_append_run _ rfl _ _ _ _ rfl _ _ rfl rfl _ _ hrun ?_)
      go_roundw
      case rel =>
        first
          | exact ⟨j + 1, sa', sn', sc', by omega, by go_num, rfl, HB, E04⟩
          | (repeat apply Exists.intro
             exact ⟨⟨j + 1, sa', sn', sc', by omega, by go_num, rfl, HB, E04⟩, rfl⟩)
      case measure => simp [intOf]; omega
    · have hji : ¬ (j : Int) < (n : Int) := by omega
      obtain rfl : j = n := by omega
      go_wp2_with fail
      have hB := H.out
      rw [List.take_of_length_le (by rw [List.length_map]; have := HN.out; omega)] at hB
      exact bodyPost_ret (v := .slice sa sn sc) (by simp [results, Tryz.results41]) rfl ⟨sa, sn, sc, rfl, hB, hE⟩

end Go.Proofs.YtocjfcgailkfjaaGreatDoor
end

section
namespace Go.Proofs.YtocjfcgailkfjaaGreatDoor
open Go.RowKit

/-- The loop's state in BerInt: how many bytes there are, what is left. -/
def IntSt (n v : Nat) (bs : List UInt8) : Prop :=
  (bs.length = 1 ∧ v = n ∧ (n < 128 → bs = [UInt8.ofNat n])) ∨ (128 ≤ n ∧ ((bs.length = 2 ∧ v < 8388608) ∨ (bs.length = 3 ∧ v < 32768) ∨ (bs.length = 4 ∧ v < 128)))

set_option maxHeartbeats 800000 in
set_option maxRecDepth 100000 in
theorem berInt_any (w : World) (n : Nat) (hn : n < 2147483648) :
    Calls Tryz.prog 115 #[.int .i64 n] w fun e w' => ∃ bs, e = .returned (.string (strOf bs)) ∧ (1 ≤ bs.length ∧ bs.length ≤ 4 ∧ (n < 128 → bs = [UInt8.ofNat n])) ∧ Ext none_ w w' := by
  have hstr := one_conv
  have happ := strOf_append
  have hsz := strOf_size
  obtain ⟨b, hw, hbn⟩ : ∃ b : UInt8, IntKind.u8.wrap (n : Int) = ((b.toNat : Nat) : Int) ∧ Hid (b.toNat = n % 256) := ⟨UInt8.ofNat (n % 256), one_byte n, Lib.hid (UInt8.toNat_ofNat_of_lt' (show _ < 256 by omega))⟩
  go_enter Tryz.func115, Tryz.ntmps115
  go_wp2_with fail
  go_loopw [0, 3] (fun x s W => ∃ (v : Nat) (bs : List UInt8), v < 2147483648 ∧ x = .int .i64 v ∧ s = .string (strOf bs) ∧ bs.length ≤ 4 ∧ Hid (IntSt n v bs) ∧ Ext none_ w W) (fun x _ _ => (intOf x).toNat)
  case atStart =>
    refine ⟨n, [b], hn, rfl, rfl, by simp, Lib.hid (.inl ⟨rfl, rfl, fun h => ?_⟩), (Ext.refl none_ w).alloc _⟩
    have := hbn.out
    congr 1
    apply UInt8.toNat_inj.1
    rw [this, UInt8.toNat_ofNat_of_lt' (show _ < 256 by omega)]; omega
  case round =>
    obtain ⟨v, bs, hv, rfl, rfl, hbl, H, hE⟩ := hrel
    by_cases hlt : 127 < v
    · have hvi : (127 : Int) < (v : Int) := by omega
      obtain ⟨z, hz⟩ : ∃ z : UInt8, IntKind.u8.wrap ((v : Int) / 256) = ((z.toNat : Nat) : Int) := ⟨UInt8.ofNat (v / 256 % 256), by have := one_byte (v / 256); rwa [show ((v / 256 : Nat) : Int) = (v : Int) / 256 by omega] at this⟩
      have hb4 : bs.length ≤ 3 := by
        rcases H.out with ⟨h, _⟩ | ⟨_, ⟨h, _⟩ | ⟨h, _⟩ | ⟨h, h2⟩⟩ <;> omega
      go_wp2_with fail
      go_roundw
      case rel =>
        refine ⟨v / 256, z :: bs, by omega, by go_num, rfl, by simp; omega, Lib.hid (.inr ?_), hE.alloc _⟩
        simp only [List.length_cons]
        rcases H.out with ⟨h, h1, h2⟩ | ⟨h0, ⟨h, h1⟩ | ⟨h, h1⟩ | ⟨h, h1⟩⟩
        · exact ⟨by omega, .inl ⟨by omega, by omega⟩⟩
        · exact ⟨h0, .inr (.inl ⟨by omega, by omega⟩)⟩
        · exact ⟨h0, .inr (.inr ⟨by omega, by omega⟩)⟩
        · omega
      case measure => simp [intOf]; omega
    · have hvi : ¬ (127 : Int) < (v : Int) := by omega
      go_wp2_with fail
      refine bodyPost_ret (v := .string (strOf bs)) (by simp [results, Tryz.results115]) rfl ⟨bs, rfl, ?_, hE⟩
      rcases H.out with ⟨h, h1, h2⟩ | ⟨h0, ⟨h, _⟩ | ⟨h, _⟩ | ⟨h, h2⟩⟩
      · exact ⟨by omega, by omega, h2⟩
      all_goals exact ⟨by omega, by omega, fun h => by omega⟩

set_option maxHeartbeats 400000 in
set_option maxRecDepth 100000 in
theorem berInteger_any (w : World) (n : Nat) (hn : n < 2147483648) : Calls Tryz.prog 65 #[.int .i64 n] w fun e w' => ∃ bs, e = .returned (.agg #[.int .u8 0, .bool false, .int .u64 2, .string (strOf bs), .slice none 0 0]) ∧ (1 ≤ bs.length ∧ bs.length ≤ 4 ∧ (n < 128 → bs = [UInt8.ofNat n])) ∧ Ext none_ w w' := by
  have E0 := (Ext.refl none_ w).alloc (.cells #[.int .u8 0, .bool false, .int .u64 0, .string ⟨#[]⟩, .slice none 0 0] 43)
  have h0 := heap_new w (.cells #[.int .u8 0, .bool false, .int .u64 0, .string ⟨#[]⟩, .slice none 0 0] 43)
  have HC := Lib.hid (berInt_any (w.alloc (.cells #[.int .u8 0, .bool false, .int .u64 0, .string ⟨#[]⟩, .slice none 0 0] 43)) n hn)
  have H0 := Lib.hid h0
  clear h0
  go_enter Tryz.func65, Tryz.ntmps65
  go_wp2_with fail
  refine HC.out.mono ?_
  rintro e w1 ⟨bs, rfl, hbs, E1⟩
  have h1 := E1.get H0.out (fun h => h)
  have HB := Lib.hid hbs
  clear hbs
  have c1 := Lib.cell_of_heap h1
  have f1 := Lib.frozen_of_heap h1
  go_wp2_with fail
  have K := heap_set (heap_set (heap_set (heap_set (heap_set h1 (i := 0) (.int .u8 0)) (i := 1) (.bool false)) (i := 2) (.int .u64 2)) (i := 3) (.string (strOf bs))) (i := 4) (.slice none 0 0)
  have ck := Lib.cell_of_heap K
  refine bodyPost_ret (v := .agg #[.int .u8 0, .bool false, .int .u64 2, .string (strOf bs), .slice none 0 0]) (by simp [results, Tryz.results65, go_sem, ck]) rfl ⟨bs, rfl, HB.out, ?_⟩
  repeat refine Ext.setAt ?_ (.inl (by omega)) _
  exact E0.trans E1

end Go.Proofs.YtocjfcgailkfjaaGreatDoor
end

section
namespace Go.Proofs.YtocjfcgailkfjaaGreatDoor
open Go.RowKit

set_option maxHeartbeats 400000 in
set_option maxRecDepth 100000 in
theorem berEnumerated_any (w : World) (n : Nat) (hn : n < 2147483648) : Calls Tryz.prog 69 #[.int .i64 n] w fun e w' => ∃ bs, e = .returned (.agg #[.int .u8 0, .bool false, .int .u64 10, .string (strOf bs), .slice none 0 0]) ∧ (1 ≤ bs.length ∧ bs.length ≤ 4 ∧ (n < 128 → bs = [UInt8.ofNat n])) ∧ Ext none_ w w' := by
  have E0 := (Ext.refl none_ w).alloc (.cells #[.int .u8 0, .bool false, .int .u64 0, .string ⟨#[]⟩, .slice none 0 0] 43)
  have h0 := heap_new w (.cells #[.int .u8 0, .bool false, .int .u64 0, .string ⟨#[]⟩, .slice none 0 0] 43)
  have HC := Lib.hid (berInt_any (w.alloc (.cells #[.int .u8 0, .bool false, .int .u64 0, .string ⟨#[]⟩, .slice none 0 0] 43)) n hn)
  have H0 := Lib.hid h0
  clear h0
  go_enter Tryz.func69, Tryz.ntmps69
  go_wp2_with fail
  refine HC.out.mono ?_
  rintro e w1 ⟨bs, rfl, hbs, E1⟩
  have h1 := E1.get H0.out (fun h => h)
  have HB := Lib.hid hbs
  clear hbs
  have c1 := Lib.cell_of_heap h1
  have f1 := Lib.frozen_of_heap h1
  go_wp2_with fail
  have K := heap_set (heap_set (heap_set (heap_set (heap_set h1 (i := 0) (.int .u8 0)) (i := 1) (.bool false)) (i := 2) (.int .u64 10)) (i := 3) (.string (strOf bs))) (i := 4) (.slice none 0 0)
  have ck := Lib.cell_of_heap K
  refine bodyPost_ret (v := .agg #[.int .u8 0, .bool false, .int .u64 10, .string (strOf bs), .slice none 0 0]) (by simp [results, Tryz.results69, go_sem, ck]) rfl ⟨bs, rfl, HB.out, ?_⟩
  repeat refine Ext.setAt ?_ (.inl (by omega)) _
  exact E0.trans E1

/-- A row of one value, just built. -/
theorem row_one (W : World) (S : Nat → Prop) (a b c d e : Value) (hS : S W.heap.size) : BerRow (W.alloc (.cells #[a, b, c, d, e] 43)) S (.slice (some ⟨W.heap.size, 0, none⟩) 1 1) [.agg #[a, b, c, d, e]] :=
  .inr ⟨W.heap.size, 1, #[a, b, c, d, e], rfl, hS, heap_new W _, by simp, by unfold maxLen; omega, rfl, fun j x hj => by
    match j, hj with
    | 0, hj =>
      obtain rfl := Option.some.inj hj
      exact ⟨a, b, c, d, e, rfl, rfl, rfl, rfl, rfl, rfl⟩⟩

/-- A control's tree. -/
def ctlT (kind : List UInt8) (critical told : Bool) (value : List UInt8) : T :=
  .cons 0 16 (T.prim 0 4 kind :: ((if told || critical then [T.prim 0 1 [if critical then 255 else 0]] else []) ++ [T.prim 0 4 value]))

set_option maxHeartbeats 800000 in
set_option maxRecDepth 100000 in
theorem ldapControl_no (w : World) (kind value : List UInt8) (vp : Nat) (vo : Nat) (hv : w.cell? ⟨vp, vo, none⟩ = some (.string (strOf value))) :
    Calls Tryz.prog 31 #[.string (strOf kind), .bool false, .bool false, .pointer (some ⟨vp, vo, none⟩)] w fun e w' => ∃ v, e = .returned v ∧ BerV w' (fun x => w.heap.size ≤ x) (ctlT kind false false value) v ∧ Ext none_ w w' := by
  have hvl : vp < w.heap.size := by have := World.block_lt_of_cell? w ⟨vp, vo, none⟩ hv; simpa using this
  have E0 := (Ext.refl none_ w).alloc (.cells #[.int .u8 0, .bool false, .int .u64 0, .string ⟨#[]⟩, .slice none 0 0] 43)
  have H0 := Lib.hid (heap_new w (.cells #[.int .u8 0, .bool false, .int .u64 0, .string ⟨#[]⟩, .slice none 0 0] 43))
  go_enter Tryz.func31, Tryz.ntmps31
  go_wp2_with fail
  refine (berOctets_any _ (strOf kind)).mono ?_
  rintro e w1 ⟨rfl, E1⟩
  have E2 := (Ext.refl none_ w1).alloc (.cells #[.int .u8 0, .bool false, .int .u64 4, .string (strOf kind), .slice none 0 0] 43)
  have E02 := (E0.trans E1).trans E2
  have hv2 : (w1.alloc (.cells #[.int .u8 0, .bool false, .int .u64 4, .string (strOf kind), .slice none 0 0] 43)).cell? ⟨vp, vo, none⟩ = some (.string (strOf value)) := by
    rw [E02.cell (p := ⟨vp, vo, none⟩) hvl (fun h => h)]; exact hv
  have hR := row_one w1 (fun x => w.heap.size ≤ x) (.int .u8 0) (.bool false) (.int .u64 4) (.string (strOf kind)) (.slice none 0 0) (by have := (E0.trans E1).size; omega)
  have HR := Lib.hid hR
  clear hR hv
  go_wp2_with fail
  refine (berOctets_any _ (strOf value)).mono ?_
  rintro e w3 ⟨rfl, E3⟩
  have E4 := (Ext.refl none_ w3).alloc (.cells #[.int .u8 0, .bool false, .int .u64 4, .string (strOf value), .slice none 0 0] 43)
  have hR4 := BerRow.frame (w' := w3.alloc (.cells #[.int .u8 0, .bool false, .int .u64 4, .string (strOf value), .slice none 0 0] 43)) HR.out (fun x hx hx2 => ⟨(E3.trans E4).block x hx2 (fun h => h), hx⟩)
  obtain ⟨sa, sn, sc, W', hrun, hR5, E5⟩ := append_ber _ _ _ _ w3.heap.size _ _ _ _ _ hR4 (heap_new w3 _) (by simp [Value.oneCell']) (by simp)
  have hs1 := (E0.trans E1).size
  have hs2 := E02.size
  have hs3 := E3.size
  have E05 : Ext none_ w W' := ((E02.trans E3).trans E4).trans' E5 (fun x hx h => by simp [Value.ownBlock] at h; omega)
  have hR6 : BerRow W' (fun x => w.heap.size < x) (.slice sa sn sc) [octV kind, octV value] := hR5.frame fun x hx _ => ⟨rfl, by
    have h2 : w.heap.size + 1 ≤ w1.heap.size := by have := E1.size; rwa [World.size_alloc] at this
    rcases hx with h | h
    · simp [Value.ownBlock] at h; omega
    · rw [World.size_alloc] at h; omega⟩
  have ho : W'.heap[w.heap.size]? = some (.cells #[.int .u8 0, .bool false, .int .u64 0, .string ⟨#[]⟩, .slice none 0 0] 43 (0, 0)) := by
    refine E5.get (E4.get (E3.get (E2.get (E1.get H0.out (fun h => h)) (fun h => h)) (fun h => h)) (fun h => h)) (fun h => ?_)
    have := hs1
    have h2 : w.heap.size + 1 ≤ w1.heap.size := by have := E1.size; rwa [World.size_alloc] at this
    simp [Value.ownBlock] at h; omega
  have HR6 := Lib.hid hR6
  have HO := Lib.hid ho
  clear hR4 hR5 hR6 ho HR
  go_wp2_with (at_builtin; refine Lib.wpList_append_run _ rfl _ _ _ _ rfl _ _ rfl rfl _ _ hrun ?_)
  refine (berSequence_any W' sa sn sc).mono ?_
  rintro e w6 ⟨rfl, E6⟩
  have h6 := E6.get HO.out (fun h => h)
  have c6 := Lib.cell_of_heap h6
  have f6 := Lib.frozen_of_heap h6
  go_wp2_with fail
  have K := heap_set (heap_set (heap_set (heap_set (heap_set h6 (i := 0) (.int .u8 0)) (i := 1) (.bool true)) (i := 2) (.int .u64 16)) (i := 3) (.string ⟨#[]⟩)) (i := 4) (.slice sa sn sc)
  have ck := Lib.cell_of_heap K
  have EF := (((((Ext.refl (fun b => b = w.heap.size) w6).setAt (b := w.heap.size) (i := 0) (.inr rfl) (.int .u8 0)).setAt (b := w.heap.size) (i := 1) (.inr rfl) (.bool true)).setAt (b := w.heap.size) (i := 2) (.inr rfl) (.int .u64 16)).setAt (b := w.heap.size) (i := 3) (.inr rfl) (.string ⟨#[]⟩)).setAt (b := w.heap.size) (i := 4) (.inr rfl) (.slice sa sn sc)
  refine bodyPost_ret (v := .agg #[.int .u8 0, .bool true, .int .u64 16, .string ⟨#[]⟩, .slice sa sn sc]) (by simp [results, Tryz.results31, go_sem, ck]) rfl ⟨_, rfl, ?_, (E05.trans E6).trans' EF (fun x hx h => by omega)⟩
  unfold ctlT BerV
  refine ⟨_, [octV kind, octV value], rfl, HR6.out.frame (fun x hx hx2 => ⟨(EF.block x (by have := E6.size; omega) (by omega)).trans (E6.block x hx2 (fun h => h)), by omega⟩), ?_⟩
  simp [BerVL, BerV, octV]

end Go.Proofs.YtocjfcgailkfjaaGreatDoor
end
