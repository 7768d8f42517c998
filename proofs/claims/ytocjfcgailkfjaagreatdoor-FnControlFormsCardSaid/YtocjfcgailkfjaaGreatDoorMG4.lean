/- LdapControl with its flag. LdapMessage. berMessage. -/
import Derived.Test.YtocjfcgailkfjaaGreatDoorMG3
import Derived.Deep.DeepCutAuto
import Derived.Deep.DrawnRows
import Derived.BigRegion

set_option linter.unusedVariables false
set_option linter.unusedSimpArgs false
set_option linter.unusedSectionVars false

section
namespace Go.Proofs.YtocjfcgailkfjaaGreatDoor
open Go.RowKit

set_option maxHeartbeats 1000000 in
set_option maxRecDepth 100000 in
theorem ldapControl_tf (w : World) (kind value : List UInt8) (vp : Nat) (vo : Nat) (hv : w.cell? ⟨vp, vo, none⟩ = some (.string (strOf value))) :
    Calls Tryz.prog 31 #[.string (strOf kind), .bool true, .bool false, .pointer (some ⟨vp, vo, none⟩)] w fun e w' => ∃ v, e = .returned v ∧ BerV w' (fun x => w.heap.size ≤ x) (ctlT kind true false value) v ∧ Ext none_ w w' := by
  have hvl : vp < w.heap.size := by have := World.block_lt_of_cell? w ⟨vp, vo, none⟩ hv; simpa using this
  have E0 := (Ext.refl none_ w).alloc (.cells #[.int .u8 0, .bool false, .int .u64 0, .string ⟨#[]⟩, .slice none 0 0] 43)
  have H0 := Lib.hid (heap_new w (.cells #[.int .u8 0, .bool false, .int .u64 0, .string ⟨#[]⟩, .slice none 0 0] 43))
  go_enter Tryz.func31, Tryz.ntmps31
  go_wp2_with fail
  refine (berOctets_any _ (strOf kind)).mono ?_
  rintro e w1 ⟨rfl, E1⟩
  have hs1 := (E0.trans E1).size
  have hs1' : w.heap.size + 1 ≤ w1.heap.size := by have := E1.size; rwa [World.size_alloc] at this
  have E2 := (Ext.refl none_ w1).alloc (.cells #[.int .u8 0, .bool false, .int .u64 4, .string (strOf kind), .slice none 0 0] 43)
  have E02 := (E0.trans E1).trans E2
  have hR := row_one w1 (fun x => w.heap.size < x) (.int .u8 0) (.bool false) (.int .u64 4) (.string (strOf kind)) (.slice none 0 0) (by omega)
  have HR := Lib.hid hR
  clear hR
  go_wp2_with fail
  refine (berTrue_any _).mono ?_
  rintro e w3 ⟨rfl, E3⟩
  have E4 := (Ext.refl none_ w3).alloc (.cells #[.int .u8 0, .bool false, .int .u64 1, .string ⟨#[255]⟩, .slice none 0 0] 43)
  have hR4 := BerRow.frame (w' := w3.alloc (.cells #[.int .u8 0, .bool false, .int .u64 1, .string ⟨#[255]⟩, .slice none 0 0] 43)) HR.out (fun x hx hx2 => ⟨(E3.trans E4).block x hx2 (fun h => h), hx⟩)
  obtain ⟨sa, sn, sc, W', hrun, hR5, E5⟩ := append_ber _ _ _ _ w3.heap.size _ _ _ _ _ hR4 (heap_new w3 _) (by simp [Value.oneCell']) (by simp)
  have hs2 := E02.size
  have hs3 := E3.size
  have E05 : Ext none_ w W' := ((E02.trans E3).trans E4).trans' E5 (fun x hx h => by simp [Value.ownBlock] at h; omega)
  have hR6 : BerRow W' (fun x => w.heap.size < x) (.slice sa sn sc) [octV kind, .agg #[.int .u8 0, .bool false, .int .u64 1, .string ⟨#[255]⟩, .slice none 0 0]] := hR5.frame fun x hx _ => ⟨rfl, by
    rcases hx with h | h
    · simp [Value.ownBlock] at h; omega
    · rw [World.size_alloc] at h; omega⟩
  have ho : W'.heap[w.heap.size]? = some (.cells #[.int .u8 0, .bool false, .int .u64 0, .string ⟨#[]⟩, .slice none 0 0] 43 (0, 0)) := by
    refine E5.get (E4.get (E3.get (E2.get (E1.get H0.out (fun h => h)) (fun h => h)) (fun h => h)) (fun h => h)) (fun h => ?_)
    simp [Value.ownBlock] at h; omega
  have hv5 : W'.cell? ⟨vp, vo, none⟩ = some (.string (strOf value)) := by
    rw [E05.cell (p := ⟨vp, vo, none⟩) hvl (fun h => h)]; exact hv
  have hownS : ∀ x, (Value.slice sa sn sc).ownBlock = some x → w.heap.size < x := fun x hx => by
    rcases hR6 with ⟨e, _⟩ | ⟨g', cap, cur, e, hS, _⟩
    · cases e; simp [Value.ownBlock] at hx
    · cases e; simp [Value.ownBlock] at hx; omega
  have HS := Lib.hid hownS
  have HR6 := Lib.hid hR6
  have HO := Lib.hid ho
  clear hR4 hR5 hR6 ho HR hv hownS H0
  go_wp2_with (at_builtin; refine Lib.wpList_append_run _ rfl _ _ _ _ rfl _ _ rfl rfl _ _ hrun ?_)
  refine (berOctets_any _ (strOf value)).mono ?_
  rintro e w6 ⟨rfl, E6⟩
  have E7 := (Ext.refl none_ w6).alloc (.cells #[.int .u8 0, .bool false, .int .u64 4, .string (strOf value), .slice none 0 0] 43)
  have hR7 := BerRow.frame (w' := w6.alloc (.cells #[.int .u8 0, .bool false, .int .u64 4, .string (strOf value), .slice none 0 0] 43)) HR6.out (fun x hx hx2 => ⟨(E6.trans E7).block x hx2 (fun h => h), hx⟩)
  obtain ⟨sa', sn', sc', W'', hrun', hR8, E8⟩ := append_ber _ _ _ _ w6.heap.size _ _ _ _ _ hR7 (heap_new w6 _) (by simp [Value.oneCell']) (by simp)
  have hs5 := E05.size
  have hs6 := E6.size
  have E08 : Ext none_ w W'' := ((E05.trans E6).trans E7).trans' E8 (fun x hx h => by have := HS.out x h; omega)
  have hR9 : BerRow W'' (fun x => w.heap.size < x) (.slice sa' sn' sc') [octV kind, .agg #[.int .u8 0, .bool false, .int .u64 1, .string ⟨#[255]⟩, .slice none 0 0], octV value] := hR8.frame fun x hx _ => ⟨rfl, by
    have h2 : w.heap.size < W'.heap.size := by have := E5.size; rw [World.size_alloc] at this; omega
    rcases hx with h | h
    · exact HS.out x h
    · rw [World.size_alloc] at h; omega⟩
  have ho2 : W''.heap[w.heap.size]? = some (.cells #[.int .u8 0, .bool false, .int .u64 0, .string ⟨#[]⟩, .slice none 0 0] 43 (0, 0)) :=
    E8.get (E7.get (E6.get HO.out (fun h => h)) (fun h => h)) (fun h => by have := HS.out _ h; omega)
  have HR9 := Lib.hid hR9
  have HO2 := Lib.hid ho2
  clear hR7 hR8 hR9 ho2 HR6 HO hrun
  go_wp2_with (at_builtin; refine Lib.wpList_append_run _ rfl _ _ _ _ rfl _ _ rfl rfl _ _ hrun' ?_)
  refine (berSequence_any W'' sa' sn' sc').mono ?_
  rintro e w9 ⟨rfl, E9⟩
  have h9 := E9.get HO2.out (fun h => h)
  have c9 := Lib.cell_of_heap h9
  have f9 := Lib.frozen_of_heap h9
  go_wp2_with fail
  have K := heap_set (heap_set (heap_set (heap_set (heap_set h9 (i := 0) (.int .u8 0)) (i := 1) (.bool true)) (i := 2) (.int .u64 16)) (i := 3) (.string ⟨#[]⟩)) (i := 4) (.slice sa' sn' sc')
  have ck := Lib.cell_of_heap K
  have EF := (((((Ext.refl (fun b => b = w.heap.size) w9).setAt (b := w.heap.size) (i := 0) (.inr rfl) (.int .u8 0)).setAt (b := w.heap.size) (i := 1) (.inr rfl) (.bool true)).setAt (b := w.heap.size) (i := 2) (.inr rfl) (.int .u64 16)).setAt (b := w.heap.size) (i := 3) (.inr rfl) (.string ⟨#[]⟩)).setAt (b := w.heap.size) (i := 4) (.inr rfl) (.slice sa' sn' sc')
  refine bodyPost_ret (v := .agg #[.int .u8 0, .bool true, .int .u64 16, .string ⟨#[]⟩, .slice sa' sn' sc']) (by simp [results, Tryz.results31, go_sem, ck]) rfl ⟨_, rfl, ?_, (E08.trans E9).trans' EF (fun x hx h => by omega)⟩
  unfold ctlT BerV
  refine ⟨_, [octV kind, .agg #[.int .u8 0, .bool false, .int .u64 1, .string ⟨#[255]⟩, .slice none 0 0], octV value], rfl, HR9.out.frame (fun x hx hx2 => ⟨(EF.block x (by have := E9.size; omega) (by omega)).trans (E9.block x hx2 (fun h => h)), by omega⟩), ?_⟩
  simp [BerVL, BerV, octV, strOf]

set_option maxHeartbeats 1000000 in
set_option maxRecDepth 100000 in
theorem ldapControl_tt (w : World) (kind value : List UInt8) (vp : Nat) (vo : Nat) (hv : w.cell? ⟨vp, vo, none⟩ = some (.string (strOf value))) :
    Calls Tryz.prog 31 #[.string (strOf kind), .bool true, .bool true, .pointer (some ⟨vp, vo, none⟩)] w fun e w' => ∃ v, e = .returned v ∧ BerV w' (fun x => w.heap.size ≤ x) (ctlT kind true true value) v ∧ Ext none_ w w' := by
  have hvl : vp < w.heap.size := by have := World.block_lt_of_cell? w ⟨vp, vo, none⟩ hv; simpa using this
  have E0 := (Ext.refl none_ w).alloc (.cells #[.int .u8 0, .bool false, .int .u64 0, .string ⟨#[]⟩, .slice none 0 0] 43)
  have H0 := Lib.hid (heap_new w (.cells #[.int .u8 0, .bool false, .int .u64 0, .string ⟨#[]⟩, .slice none 0 0] 43))
  go_enter Tryz.func31, Tryz.ntmps31
  go_wp2_with fail
  refine (berOctets_any _ (strOf kind)).mono ?_
  rintro e w1 ⟨rfl, E1⟩
  have hs1 := (E0.trans E1).size
  have hs1' : w.heap.size + 1 ≤ w1.heap.size := by have := E1.size; rwa [World.size_alloc] at this
  have E2 := (Ext.refl none_ w1).alloc (.cells #[.int .u8 0, .bool false, .int .u64 4, .string (strOf kind), .slice none 0 0] 43)
  have E02 := (E0.trans E1).trans E2
  have hR := row_one w1 (fun x => w.heap.size < x) (.int .u8 0) (.bool false) (.int .u64 4) (.string (strOf kind)) (.slice none 0 0) (by omega)
  have HR := Lib.hid hR
  clear hR
  go_wp2_with fail
  refine (berTrue_any _).mono ?_
  rintro e w3 ⟨rfl, E3⟩
  have E4 := (Ext.refl none_ w3).alloc (.cells #[.int .u8 0, .bool false, .int .u64 1, .string ⟨#[255]⟩, .slice none 0 0] 43)
  have hR4 := BerRow.frame (w' := w3.alloc (.cells #[.int .u8 0, .bool false, .int .u64 1, .string ⟨#[255]⟩, .slice none 0 0] 43)) HR.out (fun x hx hx2 => ⟨(E3.trans E4).block x hx2 (fun h => h), hx⟩)
  obtain ⟨sa, sn, sc, W', hrun, hR5, E5⟩ := append_ber _ _ _ _ w3.heap.size _ _ _ _ _ hR4 (heap_new w3 _) (by simp [Value.oneCell']) (by simp)
  have hs2 := E02.size
  have hs3 := E3.size
  have E05 : Ext none_ w W' := ((E02.trans E3).trans E4).trans' E5 (fun x hx h => by simp [Value.ownBlock] at h; omega)
  have hR6 : BerRow W' (fun x => w.heap.size < x) (.slice sa sn sc) [octV kind, .agg #[.int .u8 0, .bool false, .int .u64 1, .string ⟨#[255]⟩, .slice none 0 0]] := hR5.frame fun x hx _ => ⟨rfl, by
    rcases hx with h | h
    · simp [Value.ownBlock] at h; omega
    · rw [World.size_alloc] at h; omega⟩
  have ho : W'.heap[w.heap.size]? = some (.cells #[.int .u8 0, .bool false, .int .u64 0, .string ⟨#[]⟩, .slice none 0 0] 43 (0, 0)) := by
    refine E5.get (E4.get (E3.get (E2.get (E1.get H0.out (fun h => h)) (fun h => h)) (fun h => h)) (fun h => h)) (fun h => ?_)
    simp [Value.ownBlock] at h; omega
  have hv5 : W'.cell? ⟨vp, vo, none⟩ = some (.string (strOf value)) := by
    rw [E05.cell (p := ⟨vp, vo, none⟩) hvl (fun h => h)]; exact hv
  have hownS : ∀ x, (Value.slice sa sn sc).ownBlock = some x → w.heap.size < x := fun x hx => by
    rcases hR6 with ⟨e, _⟩ | ⟨g', cap, cur, e, hS, _⟩
    · cases e; simp [Value.ownBlock] at hx
    · cases e; simp [Value.ownBlock] at hx; omega
  have HS := Lib.hid hownS
  have HR6 := Lib.hid hR6
  have HO := Lib.hid ho
  clear hR4 hR5 hR6 ho HR hv hownS H0
  go_wp2_with (at_builtin; refine Lib.wpList_append_run _ rfl _ _ _ _ rfl _ _ rfl rfl _ _ hrun ?_)
  refine (berOctets_any _ (strOf value)).mono ?_
  rintro e w6 ⟨rfl, E6⟩
  have E7 := (Ext.refl none_ w6).alloc (.cells #[.int .u8 0, .bool false, .int .u64 4, .string (strOf value), .slice none 0 0] 43)
  have hR7 := BerRow.frame (w' := w6.alloc (.cells #[.int .u8 0, .bool false, .int .u64 4, .string (strOf value), .slice none 0 0] 43)) HR6.out (fun x hx hx2 => ⟨(E6.trans E7).block x hx2 (fun h => h), hx⟩)
  obtain ⟨sa', sn', sc', W'', hrun', hR8, E8⟩ := append_ber _ _ _ _ w6.heap.size _ _ _ _ _ hR7 (heap_new w6 _) (by simp [Value.oneCell']) (by simp)
  have hs5 := E05.size
  have hs6 := E6.size
  have E08 : Ext none_ w W'' := ((E05.trans E6).trans E7).trans' E8 (fun x hx h => by have := HS.out x h; omega)
  have hR9 : BerRow W'' (fun x => w.heap.size < x) (.slice sa' sn' sc') [octV kind, .agg #[.int .u8 0, .bool false, .int .u64 1, .string ⟨#[255]⟩, .slice none 0 0], octV value] := hR8.frame fun x hx _ => ⟨rfl, by
    have h2 : w.heap.size < W'.heap.size := by have := E5.size; rw [World.size_alloc] at this; omega
    rcases hx with h | h
    · exact HS.out x h
    · rw [World.size_alloc] at h; omega⟩
  have ho2 : W''.heap[w.heap.size]? = some (.cells #[.int .u8 0, .bool false, .int .u64 0, .string ⟨#[]⟩, .slice none 0 0] 43 (0, 0)) :=
    E8.get (E7.get (E6.get HO.out (fun h => h)) (fun h => h)) (fun h => by have := HS.out _ h; omega)
  have HR9 := Lib.hid hR9
  have HO2 := Lib.hid ho2
  clear hR7 hR8 hR9 ho2 HR6 HO hrun
  go_wp2_with (at_builtin; refine Lib.wpList_append_run _ rfl _ _ _ _ rfl _ _ rfl rfl _ _ hrun' ?_)
  refine (berSequence_any W'' sa' sn' sc').mono ?_
  rintro e w9 ⟨rfl, E9⟩
  have h9 := E9.get HO2.out (fun h => h)
  have c9 := Lib.cell_of_heap h9
  have f9 := Lib.frozen_of_heap h9
  go_wp2_with fail
  have K := heap_set (heap_set (heap_set (heap_set (heap_set h9 (i := 0) (.int .u8 0)) (i := 1) (.bool true)) (i := 2) (.int .u64 16)) (i := 3) (.string ⟨#[]⟩)) (i := 4) (.slice sa' sn' sc')
  have ck := Lib.cell_of_heap K
  have EF := (((((Ext.refl (fun b => b = w.heap.size) w9).setAt (b := w.heap.size) (i := 0) (.inr rfl) (.int .u8 0)).setAt (b := w.heap.size) (i := 1) (.inr rfl) (.bool true)).setAt (b := w.heap.size) (i := 2) (.inr rfl) (.int .u64 16)).setAt (b := w.heap.size) (i := 3) (.inr rfl) (.string ⟨#[]⟩)).setAt (b := w.heap.size) (i := 4) (.inr rfl) (.slice sa' sn' sc')
  refine bodyPost_ret (v := .agg #[.int .u8 0, .bool true, .int .u64 16, .string ⟨#[]⟩, .slice sa' sn' sc']) (by simp [results, Tryz.results31, go_sem, ck]) rfl ⟨_, rfl, ?_, (E08.trans E9).trans' EF (fun x hx h => by omega)⟩
  unfold ctlT BerV
  refine ⟨_, [octV kind, .agg #[.int .u8 0, .bool false, .int .u64 1, .string ⟨#[255]⟩, .slice none 0 0], octV value], rfl, HR9.out.frame (fun x hx hx2 => ⟨(EF.block x (by have := E9.size; omega) (by omega)).trans (E9.block x hx2 (fun h => h)), by omega⟩), ?_⟩
  simp [BerVL, BerV, octV, strOf]

set_option maxHeartbeats 1000000 in
set_option maxRecDepth 100000 in
theorem ldapControl_ft (w : World) (kind value : List UInt8) (vp : Nat) (vo : Nat) (hv : w.cell? ⟨vp, vo, none⟩ = some (.string (strOf value))) :
    Calls Tryz.prog 31 #[.string (strOf kind), .bool false, .bool true, .pointer (some ⟨vp, vo, none⟩)] w fun e w' => ∃ v, e = .returned v ∧ BerV w' (fun x => w.heap.size ≤ x) (ctlT kind false true value) v ∧ Ext none_ w w' := by
  have hvl : vp < w.heap.size := by have := World.block_lt_of_cell? w ⟨vp, vo, none⟩ hv; simpa using this
  have E0 := (Ext.refl none_ w).alloc (.cells #[.int .u8 0, .bool false, .int .u64 0, .string ⟨#[]⟩, .slice none 0 0] 43)
  have H0 := Lib.hid (heap_new w (.cells #[.int .u8 0, .bool false, .int .u64 0, .string ⟨#[]⟩, .slice none 0 0] 43))
  go_enter Tryz.func31, Tryz.ntmps31
  go_wp2_with fail
  refine (berOctets_any _ (strOf kind)).mono ?_
  rintro e w1 ⟨rfl, E1⟩
  have hs1 := (E0.trans E1).size
  have hs1' : w.heap.size + 1 ≤ w1.heap.size := by have := E1.size; rwa [World.size_alloc] at this
  have E2 := (Ext.refl none_ w1).alloc (.cells #[.int .u8 0, .bool false, .int .u64 4, .string (strOf kind), .slice none 0 0] 43)
  have E02 := (E0.trans E1).trans E2
  have hR := row_one w1 (fun x => w.heap.size < x) (.int .u8 0) (.bool false) (.int .u64 4) (.string (strOf kind)) (.slice none 0 0) (by omega)
  have HR := Lib.hid hR
  clear hR
  go_wp2_with fail
  refine (berFalse_any _).mono ?_
  rintro e w3 ⟨rfl, E3⟩
  have E4 := (Ext.refl none_ w3).alloc (.cells #[.int .u8 0, .bool false, .int .u64 1, .string ⟨#[0]⟩, .slice none 0 0] 43)
  have hR4 := BerRow.frame (w' := w3.alloc (.cells #[.int .u8 0, .bool false, .int .u64 1, .string ⟨#[0]⟩, .slice none 0 0] 43)) HR.out (fun x hx hx2 => ⟨(E3.trans E4).block x hx2 (fun h => h), hx⟩)
  obtain ⟨sa, sn, sc, W', hrun, hR5, E5⟩ := append_ber _ _ _ _ w3.heap.size _ _ _ _ _ hR4 (heap_new w3 _) (by simp [Value.oneCell']) (by simp)
  have hs2 := E02.size
  have hs3 := E3.size
  have E05 : Ext none_ w W' := ((E02.trans E3).trans E4).trans' E5 (fun x hx h => by simp [Value.ownBlock] at h; omega)
  have hR6 : BerRow W' (fun x => w.heap.size < x) (.slice sa sn sc) [octV kind, .agg #[.int .u8 0, .bool false, .int .u64 1, .string ⟨#[0]⟩, .slice none 0 0]] := hR5.frame fun x hx _ => ⟨rfl, by
    rcases hx with h | h
    · simp [Value.ownBlock] at h; omega
    · rw [World.size_alloc] at h; omega⟩
  have ho : W'.heap[w.heap.size]? = some (.cells #[.int .u8 0, .bool false, .int .u64 0, .string ⟨#[]⟩, .slice none 0 0] 43 (0, 0)) := by
    refine E5.get (E4.get (E3.get (E2.get (E1.get H0.out (fun h => h)) (fun h => h)) (fun h => h)) (fun h => h)) (fun h => ?_)
    simp [Value.ownBlock] at h; omega
  have hv5 : W'.cell? ⟨vp, vo, none⟩ = some (.string (strOf value)) := by
    rw [E05.cell (p := ⟨vp, vo, none⟩) hvl (fun h => h)]; exact hv
  have hownS : ∀ x, (Value.slice sa sn sc).ownBlock = some x → w.heap.size < x := fun x hx => by
    rcases hR6 with ⟨e, _⟩ | ⟨g', cap, cur, e, hS, _⟩
    · cases e; simp [Value.ownBlock] at hx
    · cases e; simp [Value.ownBlock] at hx; omega
  have HS := Lib.hid hownS
  have HR6 := Lib.hid hR6
  have HO := Lib.hid ho
  clear hR4 hR5 hR6 ho HR hv hownS H0
  go_wp2_with (at_builtin; refine Lib.wpList_append_run _ rfl _ _ _ _ rfl _ _ rfl rfl _ _ hrun ?_)
  refine (berOctets_any _ (strOf value)).mono ?_
  rintro e w6 ⟨rfl, E6⟩
  have E7 := (Ext.refl none_ w6).alloc (.cells #[.int .u8 0, .bool false, .int .u64 4, .string (strOf value), .slice none 0 0] 43)
  have hR7 := BerRow.frame (w' := w6.alloc (.cells #[.int .u8 0, .bool false, .int .u64 4, .string (strOf value), .slice none 0 0] 43)) HR6.out (fun x hx hx2 => ⟨(E6.trans E7).block x hx2 (fun h => h), hx⟩)
  obtain ⟨sa', sn', sc', W'', hrun', hR8, E8⟩ := append_ber _ _ _ _ w6.heap.size _ _ _ _ _ hR7 (heap_new w6 _) (by simp [Value.oneCell']) (by simp)
  have hs5 := E05.size
  have hs6 := E6.size
  have E08 : Ext none_ w W'' := ((E05.trans E6).trans E7).trans' E8 (fun x hx h => by have := HS.out x h; omega)
  have hR9 : BerRow W'' (fun x => w.heap.size < x) (.slice sa' sn' sc') [octV kind, .agg #[.int .u8 0, .bool false, .int .u64 1, .string ⟨#[0]⟩, .slice none 0 0], octV value] := hR8.frame fun x hx _ => ⟨rfl, by
    have h2 : w.heap.size < W'.heap.size := by have := E5.size; rw [World.size_alloc] at this; omega
    rcases hx with h | h
    · exact HS.out x h
    · rw [World.size_alloc] at h; omega⟩
  have ho2 : W''.heap[w.heap.size]? = some (.cells #[.int .u8 0, .bool false, .int .u64 0, .string ⟨#[]⟩, .slice none 0 0] 43 (0, 0)) :=
    E8.get (E7.get (E6.get HO.out (fun h => h)) (fun h => h)) (fun h => by have := HS.out _ h; omega)
  have HR9 := Lib.hid hR9
  have HO2 := Lib.hid ho2
  clear hR7 hR8 hR9 ho2 HR6 HO hrun
  go_wp2_with (at_builtin; refine Lib.wpList_append_run _ rfl _ _ _ _ rfl _ _ rfl rfl _ _ hrun' ?_)
  refine (berSequence_any W'' sa' sn' sc').mono ?_
  rintro e w9 ⟨rfl, E9⟩
  have h9 := E9.get HO2.out (fun h => h)
  have c9 := Lib.cell_of_heap h9
  have f9 := Lib.frozen_of_heap h9
  go_wp2_with fail
  have K := heap_set (heap_set (heap_set (heap_set (heap_set h9 (i := 0) (.int .u8 0)) (i := 1) (.bool true)) (i := 2) (.int .u64 16)) (i := 3) (.string ⟨#[]⟩)) (i := 4) (.slice sa' sn' sc')
  have ck := Lib.cell_of_heap K
  have EF := (((((Ext.refl (fun b => b = w.heap.size) w9).setAt (b := w.heap.size) (i := 0) (.inr rfl) (.int .u8 0)).setAt (b := w.heap.size) (i := 1) (.inr rfl) (.bool true)).setAt (b := w.heap.size) (i := 2) (.inr rfl) (.int .u64 16)).setAt (b := w.heap.size) (i := 3) (.inr rfl) (.string ⟨#[]⟩)).setAt (b := w.heap.size) (i := 4) (.inr rfl) (.slice sa' sn' sc')
  refine bodyPost_ret (v := .agg #[.int .u8 0, .bool true, .int .u64 16, .string ⟨#[]⟩, .slice sa' sn' sc']) (by simp [results, Tryz.results31, go_sem, ck]) rfl ⟨_, rfl, ?_, (E08.trans E9).trans' EF (fun x hx h => by omega)⟩
  unfold ctlT BerV
  refine ⟨_, [octV kind, .agg #[.int .u8 0, .bool false, .int .u64 1, .string ⟨#[0]⟩, .slice none 0 0], octV value], rfl, HR9.out.frame (fun x hx hx2 => ⟨(EF.block x (by have := E9.size; omega) (by omega)).trans (E9.block x hx2 (fun h => h)), by omega⟩), ?_⟩
  simp [BerVL, BerV, octV, strOf]

/-- LdapControl. -/
theorem ldapControl_any (w : World) (kind value : List UInt8) (critical told : Bool) (vp : Nat) (vo : Nat) (hv : w.cell? ⟨vp, vo, none⟩ = some (.string (strOf value))) :
    Calls Tryz.prog 31 #[.string (strOf kind), .bool critical, .bool told, .pointer (some ⟨vp, vo, none⟩)] w fun e w' => ∃ v, e = .returned v ∧ BerV w' (fun x => w.heap.size ≤ x) (ctlT kind critical told value) v ∧ Ext none_ w w' := by
  cases critical <;> cases told
  · exact ldapControl_no w kind value vp vo hv
  · exact ldapControl_ft w kind value vp vo hv
  · exact ldapControl_tf w kind value vp vo hv
  · exact ldapControl_tt w kind value vp vo hv

end Go.Proofs.YtocjfcgailkfjaaGreatDoor
end

section
namespace Go.Proofs.YtocjfcgailkfjaaGreatDoor
open Go.RowKit

attribute [local go_sem ↓] Go.wp_at_zero Go.wp_at_succ

/-- A message's tree. -/
def msgT (bs : List UInt8) (op : T) (ctls : List T) : T := .cons 0 16 ([.prim 0 2 bs, op] ++ (if ctls = [] then [] else [.cons 2 0 ctls]))

theorem row_two (w : World) (S : Nat → Prop) (g : Nat) (a b c d e a' b' c' d' e' : Value) (hS : S g) (hg : w.heap[g]? = some (.cells #[a, b, c, d, e, a', b', c', d', e'] 43 (0, 0))) : BerRow w S (.slice (some ⟨g, 0, none⟩) 2 2) [.agg #[a, b, c, d, e], .agg #[a', b', c', d', e']] :=
  .inr ⟨g, 2, _, rfl, hS, hg, by simp, by unfold maxLen; omega, rfl, fun j x hj => by
    match j, hj with
    | 0, hj =>
      obtain rfl := Option.some.inj hj
      exact ⟨a, b, c, d, e, rfl, rfl, rfl, rfl, rfl, rfl⟩
    | 1, hj =>
      obtain rfl := Option.some.inj hj
      exact ⟨a', b', c', d', e', rfl, rfl, rfl, rfl, rfl, rfl⟩⟩

set_option maxHeartbeats 1000000 in
set_option maxRecDepth 100000 in
theorem ldapMessage_any (w : World) (S : Nat → Prop) (id : Nat) (hid : id < 2147483648) (op : T) (a b c d e5 : Value) (ca : Option Addr) (cn cc : Nat) (hop : BerV w S op (.agg #[a, b, c, d, e5])) (ctls : List T) (cvs : List Value) (hcr : BerRow w S (.slice ca cn cc) cvs) (hcl : BerVL w S ctls cvs) :
    Calls Tryz.prog 37 #[.int .i64 id, .agg #[a, b, c, d, e5], .slice ca cn cc] w fun e w' => ∃ v, e = .returned v ∧ (∃ bs : List UInt8, 1 ≤ bs.length ∧ bs.length ≤ 4 ∧ BerV w' (fun x => S x ∨ w.heap.size ≤ x) (msgT bs op ctls) v) ∧ Ext none_ w w' := by
  obtain ⟨kcls, kb, ktag, kdata, ksa, ksn, ksc, hvs⟩ := hop.shape
  simp only [Value.agg.injEq, Array.mk.injEq, List.cons.injEq, and_true] at hvs
  obtain ⟨rfl, rfl, rfl, rfl, rfl⟩ := hvs
  have HOP := Lib.hid hop
  have HCR := Lib.hid hcr
  have HCL := Lib.hid hcl
  clear hop hcr hcl
  have h2 := two_new w (.cells #[.int .u8 kcls, .bool kb, .int .u64 ktag, .string kdata, .slice ksa ksn ksc] 43 (0, 0)) (.cells #[.int .u8 0, .bool false, .int .u64 0, .string ⟨#[]⟩, .slice none 0 0] 43 (0, 0))
  have HT := Lib.hid h2
  have c0 := Lib.cell_of_heap h2.1
  clear h2
  go_enter Tryz.func37, Tryz.ntmps37
  go_upto_region 1 with fail
  go_cut [7] from 8 to 11 (fun v7 W => ∃ bs : List UInt8, (1 ≤ bs.length ∧ bs.length ≤ 4) ∧ ∃ g, v7 = .slice (some ⟨g, 0, none⟩) 2 2 ∧ w.heap.size + 1 < g ∧ W.heap[g]? = some (.cells #[.int .u8 0, .bool false, .int .u64 2, .string (strOf bs), .slice none 0 0, .int .u8 kcls, .bool kb, .int .u64 ktag, .string kdata, .slice ksa ksn ksc] 43 (0, 0)) ∧ W.heap[w.heap.size + 1]? = some (.cells #[.int .u8 0, .bool false, .int .u64 0, .string ⟨#[]⟩, .slice none 0 0] 43 (0, 0)) ∧ Ext none_ w W)
  case first =>
    go_region_with ((go_at_call 65; refine (berInteger_any ((w.alloc (.cells #[.int .u8 kcls, .bool kb, .int .u64 ktag, .string kdata, .slice ksa ksn ksc] 43)).alloc (.cells #[.int .u8 0, .bool false, .int .u64 0, .string ⟨#[]⟩, .slice none 0 0] 43)).drew id hid).mono ?_; rintro e w1 ⟨bs, rfl, hbs, E1⟩; have h1 := Ext.get (w := ((w.alloc (.cells #[.int .u8 kcls, .bool kb, .int .u64 ktag, .string kdata, .slice ksa ksn ksc] 43)).alloc (.cells #[.int .u8 0, .bool false, .int .u64 0, .string ⟨#[]⟩, .slice none 0 0] 43)).drew) E1 HT.out.1 (fun h => h); have c1 := Lib.cell_of_heap h1))
    all_goals
      go_wp2_with fail
      go_meet
      case rel =>
        have E2 := (Ext.refl none_ w1).alloc (.cells #[.int .u8 0, .bool false, .int .u64 2, .string (strOf bs), .slice none 0 0, .int .u8 kcls, .bool kb, .int .u64 ktag, .string kdata, .slice ksa ksn ksc] 43)
        have hsz : w.heap.size + 1 + 1 ≤ w1.heap.size := by have := E1.size; simpa using this
        have k1 := Ext.get (w := ((w.alloc (.cells #[.int .u8 kcls, .bool kb, .int .u64 ktag, .string kdata, .slice ksa ksn ksc] 43)).alloc (.cells #[.int .u8 0, .bool false, .int .u64 0, .string ⟨#[]⟩, .slice none 0 0] 43)).drew) E1 HT.out.2.1 (fun h => h)
        exact ⟨bs, ⟨hbs.1, hbs.2.1⟩, w1.heap.size, rfl, by omega, heap_new w1 _, E2.get k1 (fun h => h), ((HT.out.2.2.drew).trans E1).trans E2⟩
  case rest =>
    obtain ⟨bs, hbs, g, rfl, hg, hgh, ho, E1⟩ := hcut
    have HBS := Lib.hid hbs
    clear hbs c0
    have ho' := Lib.hid ho
    have hg' := Lib.hid hgh
    clear ho hgh
    by_cases hc : cn = 0
    · have Hc := Lib.hid hc
      subst hc
      go_wp2_with fail
      refine (berSequence_any wc (some ⟨g, 0, none⟩) 2 2).mono ?_
      rintro e w9 ⟨rfl, E9⟩
      have h9 := E9.get ho'.out (fun h => h)
      have c9 := Lib.cell_of_heap h9
      have f9 := Lib.frozen_of_heap h9
      go_wp2_with fail
      have K := heap_set (heap_set (heap_set (heap_set (heap_set h9 (i := 0) (.int .u8 0)) (i := 1) (.bool true)) (i := 2) (.int .u64 16)) (i := 3) (.string ⟨#[]⟩)) (i := 4) (.slice (some ⟨g, 0, none⟩) 2 2)
      have ck := Lib.cell_of_heap K
      have EF := (((((Ext.refl (fun b => b = w.heap.size + 1) w9).setAt (b := w.heap.size + 1) (i := 0) (.inr rfl) (.int .u8 0)).setAt (b := w.heap.size + 1) (i := 1) (.inr rfl) (.bool true)).setAt (b := w.heap.size + 1) (i := 2) (.inr rfl) (.int .u64 16)).setAt (b := w.heap.size + 1) (i := 3) (.inr rfl) (.string ⟨#[]⟩)).setAt (b := w.heap.size + 1) (i := 4) (.inr rfl) (.slice (some ⟨g, 0, none⟩) 2 2)
      have E1s := E1.size
      have hg9 := E9.get hg'.out (fun h => h)
      have hctl : ctls = [] := by
        have h1 := BerVL.length _ _ HCL.out
        have h2 : cvs = [] := by
          rcases HCR.out with ⟨_, h⟩ | ⟨g', cap, cur, e, _⟩
          · exact h
          · simp only [Value.slice.injEq] at e; exact List.eq_nil_of_length_eq_zero e.2.1.symm
        rw [h2] at h1
        exact List.eq_nil_of_length_eq_zero h1.symm
      refine bodyPost_ret (v := .agg #[.int .u8 0, .bool true, .int .u64 16, .string ⟨#[]⟩, .slice (some ⟨g, 0, none⟩) 2 2]) (by simp [results, Tryz.results37, go_sem, ck]) rfl ⟨_, rfl, ⟨bs, HBS.out.1, HBS.out.2, ?_⟩, (E1.trans E9).trans' EF (fun x hx h => by omega)⟩
      unfold msgT BerV
      rw [if_pos hctl]
      refine ⟨_, _, rfl, row_two _ _ g _ _ _ _ _ _ _ _ _ _ (.inr (by omega)) (EF.get hg9 (by omega)), ?_⟩
      simp only [List.append_nil, BerVL, and_true]
      refine ⟨by unfold BerV; rfl, BerV.frame (fun x hx hx2 => ⟨?_, .inl hx⟩) op _ HOP.out⟩
      have h1 := E1.block x hx2 (fun h => h)
      have h2 := E9.block x (by omega) (fun h => h)
      have h3 := EF.block x (by have := E9.size; omega) (by omega)
      exact h3.trans (h2.trans h1)
    · have hci : (0 : Int) < (cn : Int) := by omega
      have E1s := E1.size
      have E2 := (Ext.refl none_ wc).alloc (.cells #[.int .u8 2, .bool true, .int .u64 0, .string ⟨#[]⟩, .slice ca cn cc] 43)
      have hR := row_two (wc.alloc (.cells #[.int .u8 2, .bool true, .int .u64 0, .string ⟨#[]⟩, .slice ca cn cc] 43)) (fun x => w.heap.size + 1 < x) g _ _ _ _ _ _ _ _ _ _ hg (E2.get hg'.out (fun h => h))
      obtain ⟨sa, sn, sc, W', hrun, hR5, E5⟩ := append_ber _ _ _ _ wc.heap.size _ _ _ _ _ hR (heap_new wc _) (by simp [Value.oneCell']) (by simp)
      have hgl := lt_of_block hg'.out
      have E05 : Ext none_ w W' := (E1.trans E2).trans' E5 (fun x hx h => by simp [Value.ownBlock] at h; omega)
      have hR6 := BerRow.frame (w' := W') (S' := fun x => w.heap.size + 1 < x) hR5 (fun x hx _ => ⟨rfl, by
        rcases hx with h | h
        · simp [Value.ownBlock] at h; omega
        · rw [World.size_alloc] at h; omega⟩)
      have ho5 := E5.get (E2.get ho'.out (fun h => h)) (fun h => by simp [Value.ownBlock] at h; omega)
      have HR6 := Lib.hid hR6
      have HO := Lib.hid ho5
      have HE5 := Lib.hid E5
      clear hR hR5 hR6 ho5 E5
      go_wp2_with (at_builtin; refine Lib.wpList_append_run _ rfl _ _ _ _ rfl _ _ rfl rfl _ _ hrun ?_)
      refine (berSequence_any W' sa sn sc).mono ?_
      rintro e w9 ⟨rfl, E9⟩
      have h9 := E9.get HO.out (fun h => h)
      have c9 := Lib.cell_of_heap h9
      have f9 := Lib.frozen_of_heap h9
      go_wp2_with fail
      have K := heap_set (heap_set (heap_set (heap_set (heap_set h9 (i := 0) (.int .u8 0)) (i := 1) (.bool true)) (i := 2) (.int .u64 16)) (i := 3) (.string ⟨#[]⟩)) (i := 4) (.slice sa sn sc)
      have ck := Lib.cell_of_heap K
      have EF := (((((Ext.refl (fun b => b = w.heap.size + 1) w9).setAt (b := w.heap.size + 1) (i := 0) (.inr rfl) (.int .u8 0)).setAt (b := w.heap.size + 1) (i := 1) (.inr rfl) (.bool true)).setAt (b := w.heap.size + 1) (i := 2) (.inr rfl) (.int .u64 16)).setAt (b := w.heap.size + 1) (i := 3) (.inr rfl) (.string ⟨#[]⟩)).setAt (b := w.heap.size + 1) (i := 4) (.inr rfl) (.slice sa sn sc)
      have hctl : ¬ ctls = [] := fun e => by
        have h1 := BerVL.length _ _ HCL.out
        rw [e] at h1
        have h2 : cvs = [] := List.eq_nil_of_length_eq_zero h1
        rcases HCR.out with ⟨h, _⟩ | ⟨g', cap, cur, h, _⟩
        · simp only [Value.slice.injEq] at h; exact hc h.2.1
        · simp only [Value.slice.injEq] at h; rw [h2] at h; exact hc h.2.1
      have hs5 := E05.size
      have hold : ∀ x, x < w.heap.size → (((((w9.setCell ⟨w.heap.size + 1, 0, none⟩ (.int .u8 0)).setCell ⟨w.heap.size + 1, 1, none⟩ (.bool true)).setCell ⟨w.heap.size + 1, 2, none⟩ (.int .u64 16)).setCell ⟨w.heap.size + 1, 3, none⟩ (.string ⟨#[]⟩)).setCell ⟨w.heap.size + 1, 4, none⟩ (.slice sa sn sc)).heap[x]? = w.heap[x]? := fun x hx2 =>
        (EF.block x (by have := E9.size; omega) (by omega)).trans ((E9.block x (by omega) (fun h => h)).trans (E05.block x hx2 (fun h => h)))
      refine bodyPost_ret (v := .agg #[.int .u8 0, .bool true, .int .u64 16, .string ⟨#[]⟩, .slice sa sn sc]) (by simp [results, Tryz.results37, go_sem, ck]) rfl ⟨_, rfl, ⟨bs, HBS.out.1, HBS.out.2, ?_⟩, (E05.trans E9).trans' EF (fun x hx h => by omega)⟩
      unfold msgT BerV
      rw [if_neg hctl]
      refine ⟨_, _, rfl, HR6.out.frame (fun x hx hx2 => ⟨(EF.block x (by have := E9.size; omega) (by omega)).trans (E9.block x hx2 (fun h => h)), .inr (by omega)⟩), ?_⟩
      simp only [List.cons_append, List.nil_append, BerVL, and_true]
      refine ⟨by unfold BerV; rfl, BerV.frame (fun x hx hx2 => ⟨hold x hx2, .inl hx⟩) op _ HOP.out, ?_⟩
      unfold BerV
      exact ⟨_, cvs, rfl, HCR.out.frame (fun x hx hx2 => ⟨hold x hx2, .inl hx⟩), BerVL.frame (fun x hx hx2 => ⟨hold x hx2, .inl hx⟩) _ _ HCL.out⟩

end Go.Proofs.YtocjfcgailkfjaaGreatDoor
end

section
namespace Go.Proofs.YtocjfcgailkfjaaGreatDoor
open Go.RowKit

set_option maxHeartbeats 400000 in
set_option maxRecDepth 100000 in
theorem berMessage_any (w : World) (S : Nat → Prop) (id : Nat) (hid : id < 2147483648) (op : T) (v : Value) (ca : Option Addr) (cn cc : Nat) (hop : BerV w S op v) (ctls : List T) (cvs : List Value) (hcr : BerRow w S (.slice ca cn cc) cvs) (hcl : BerVL w S ctls cvs)
    (ha : Option Addr) (hn hc : Nat) (ch : List UInt8) (hcn : Hid (ch.length = hn)) (hcn2 : hn ≤ 1000) (hch : ch = [] ∨ ∃ g o, ha = some ⟨g, o, none⟩ ∧ BytesAt w g o ch)
    (hfine : ∀ bs : List UInt8, 1 ≤ bs.length → bs.length ≤ 4 → (msgT bs op ctls).deep ≤ 800 ∧ (msgT bs op ctls).fine ∧ (msgT bs op ctls).wt ≤ 50000) :
    Calls Tryz.prog 14 #[.int .i64 id, v, .slice ca cn cc, .slice ha hn hc] w fun e w' => ∃ wire, e = .returned (.string (strOf wire)) ∧ (∃ bs : List UInt8, 1 ≤ bs.length ∧ bs.length ≤ 4 ∧ Wire (msgT bs op ctls) wire ∧ wire.length ≤ 50000) ∧ Ext none_ w w' := by
  obtain ⟨kcls, kb, ktag, kdata, ksa, ksn, ksc, rfl⟩ := hop.shape
  have E1 := (Ext.refl none_ w).alloc (.cells #[.int .u8 kcls, .bool kb, .int .u64 ktag, .string kdata, .slice ksa ksn ksc] 43)
  have hm := ldapMessage_any (w.alloc (.cells #[.int .u8 kcls, .bool kb, .int .u64 ktag, .string kdata, .slice ksa ksn ksc] 43)) S id hid op _ _ _ _ _ ca cn cc (BerV.frame (fun x hx hx2 => ⟨E1.block x hx2 (fun h => h), hx⟩) op _ hop) ctls cvs (hcr.frame (fun x hx hx2 => ⟨E1.block x hx2 (fun h => h), hx⟩)) (BerVL.frame (fun x hx hx2 => ⟨E1.block x hx2 (fun h => h), hx⟩) _ _ hcl)
  have HM := Lib.hid hm
  have HF := Lib.hid hfine
  have HCH := Lib.hid hch
  clear hm hfine hop hcr hcl hch
  go_enter Tryz.func14, Tryz.ntmps14
  go_wp2_with fail
  refine HM.out.mono ?_
  rintro e w1 ⟨mv, rfl, ⟨bs, h1, h4, hbv⟩, E2⟩
  obtain ⟨f1, f2, f3⟩ := HF.out bs h1 h4
  have hc2 := berForms_top w1 _ mv ha hn hc ch _ hcn hcn2 hbv (HCH.out.imp (fun x => x) (fun ⟨g, o, e, hB⟩ => ⟨g, o, e, (hB.ext E1 (fun h => h)).ext E2 (fun h => h)⟩)) f1 f2 f3
  obtain ⟨mcls, mb, mtag, mdata, msa, msn, msc, rfl⟩ := hbv.shape
  have HC := Lib.hid hc2
  have HB := Lib.hid (And.intro h1 h4)
  clear hc2 hbv f1 f2 h1 h4 HM HF
  go_wp2_with fail
  refine HC.out.mono ?_
  rintro e w2 ⟨wire, rfl, hw1, hw2, E3⟩
  have HW := Lib.hid hw1
  clear hw1
  go_wp2_with fail
  exact bodyPost_ret (v := .string (strOf wire)) (by simp [results, Tryz.results14]) rfl ⟨wire, rfl, ⟨bs, HB.out.1, HB.out.2, HW.out, by omega⟩, (E1.trans E2).trans E3⟩

end Go.Proofs.YtocjfcgailkfjaaGreatDoor
end
