/- ldapKnown. ldapKnown at any other kind. -/
import Derived.Test.YtocjfcgailkfjaaGreatDoorMN4
import Derived.BigRegion

set_option linter.unusedVariables false
set_option linter.unusedSimpArgs false
set_option linter.unusedSectionVars false

section
namespace Go.Proofs.YtocjfcgailkfjaaGreatDoor
open Go.RowKit

set_option maxHeartbeats 2000000 in
set_option maxRecDepth 100000 in
theorem known0_any (w : World) (n1 n2 n3 : Int) (ty ck tx id : ByteArray) (cr fl : Bool) (a b : Option Addr) (kn inn c d : Nat) :
    Calls Tryz.prog 24 #[.agg #[.int .i64 0, .string ty, .bool cr, .bool fl, .int .i64 n1, .int .i64 n2, .int .i64 n3, .string ck, .string tx, .string id, .slice a kn c, .slice b inn d]] w (YesIfE (kn = 0 ∧ inn = 0 ∧ (0 = 0 ∧ ty = ⟨#[49, 46, 50, 46, 51, 46, 52]⟩ ∧ cr = cr ∧ fl = false ∧ n1 = 0 ∧ n2 = 0 ∧ n3 = 0 ∧ ck = ⟨#[]⟩ ∧ tx = tx ∧ id = ⟨#[]⟩) ∧ 0 ≤ n1 ∧ n1 < 2147483648 ∧ tx.size ≤ 40 ∧ ck.size ≤ 40) w) := by
  obtain ⟨Q, hQ⟩ : ∃ Q : Prop, Hid (Q = (kn = 0 ∧ inn = 0 ∧ (0 = 0 ∧ ty = ⟨#[49, 46, 50, 46, 51, 46, 52]⟩ ∧ cr = cr ∧ fl = false ∧ n1 = 0 ∧ n2 = 0 ∧ n3 = 0 ∧ ck = ⟨#[]⟩ ∧ tx = tx ∧ id = ⟨#[]⟩) ∧ 0 ≤ n1 ∧ n1 < 2147483648 ∧ tx.size ≤ 40 ∧ ck.size ≤ 40)) ∧ True := ⟨_, Lib.hid rfl, trivial⟩
  have HQ : Hid ((kn = 0 ∧ inn = 0 ∧ (0 = 0 ∧ ty = ⟨#[49, 46, 50, 46, 51, 46, 52]⟩ ∧ cr = cr ∧ fl = false ∧ n1 = 0 ∧ n2 = 0 ∧ n3 = 0 ∧ ck = ⟨#[]⟩ ∧ tx = tx ∧ id = ⟨#[]⟩) ∧ 0 ≤ n1 ∧ n1 < 2147483648 ∧ tx.size ≤ 40 ∧ ck.size ≤ 40) = Q) := Lib.hid hQ.1.out.symm
  rw [HQ.out]
  clear hQ
  by_cases hkn : kn = 0
  case neg =>
    have hki : ¬ (kn : Int) = 0 := by omega
    have E2 := (two_new w (.cells #[.int .i64 0, .string ty, .bool cr, .bool fl, .int .i64 n1, .int .i64 n2, .int .i64 n3, .string ck, .string tx, .string id, .slice a kn c, .slice b inn d] 65 (0, 0)) (.cells #[.int .i64 0, .string ⟨#[49, 46, 50, 46, 51, 46, 52]⟩, .bool cr, .bool false, .int .i64 0, .int .i64 0, .int .i64 0, .string ⟨#[]⟩, .string tx, .string ⟨#[]⟩, .slice none 0 0, .slice none 0 0] 65 (0, 0))).2.2
    go_enter Tryz.func24, Tryz.ntmps24
    go_wp2_with fail
    go_region
    go_wp2_with fail
    go_ret
    exact ⟨false, rfl, (fun h => by cases h), E2.drew⟩
  subst hkn
  by_cases hin : inn = 0
  case neg =>
    have hki : ¬ (inn : Int) = 0 := by omega
    have E2 := (two_new w (.cells #[.int .i64 0, .string ty, .bool cr, .bool fl, .int .i64 n1, .int .i64 n2, .int .i64 n3, .string ck, .string tx, .string id, .slice a 0 c, .slice b inn d] 65 (0, 0)) (.cells #[.int .i64 0, .string ⟨#[49, 46, 50, 46, 51, 46, 52]⟩, .bool cr, .bool false, .int .i64 0, .int .i64 0, .int .i64 0, .string ⟨#[]⟩, .string tx, .string ⟨#[]⟩, .slice none 0 0, .slice none 0 0] 65 (0, 0))).2.2
    go_enter Tryz.func24, Tryz.ntmps24
    go_wp2_with fail
    go_region
    go_wp2_with fail
    go_ret
    exact ⟨false, rfl, (fun h => by cases h), E2.drew⟩
  subst hin
  have h4 := three_new w (.cells #[.int .i64 0, .string ty, .bool cr, .bool fl, .int .i64 n1, .int .i64 n2, .int .i64 n3, .string ck, .string tx, .string id, .slice a 0 c, .slice b 0 d] 65 (0, 0)) (.cells #[.int .i64 0, .string ⟨#[49, 46, 50, 46, 51, 46, 52]⟩, .bool cr, .bool false, .int .i64 0, .int .i64 0, .int .i64 0, .string ⟨#[]⟩, .string tx, .string ⟨#[]⟩, .slice none 0 0, .slice none 0 0] 65 (0, 0)) (.cells #[.int .i64 0, .string ty, .bool cr, .bool fl, .int .i64 n1, .int .i64 n2, .int .i64 n3, .string ck, .string tx, .string id, .slice a 0 c, .slice b 0 d] 65 (0, 0)) (.cells #[.int .i64 0, .string ⟨#[49, 46, 50, 46, 51, 46, 52]⟩, .bool cr, .bool false, .int .i64 0, .int .i64 0, .int .i64 0, .string ⟨#[]⟩, .string tx, .string ⟨#[]⟩, .slice none 0 0, .slice none 0 0] 65 (0, 0))
  have h5 : ((((w.alloc (.cells #[.int .i64 0, .string ty, .bool cr, .bool fl, .int .i64 n1, .int .i64 n2, .int .i64 n3, .string ck, .string tx, .string id, .slice a 0 c, .slice b 0 d] 65 (0, 0))).alloc (.cells #[.int .i64 0, .string ⟨#[49, 46, 50, 46, 51, 46, 52]⟩, .bool cr, .bool false, .int .i64 0, .int .i64 0, .int .i64 0, .string ⟨#[]⟩, .string tx, .string ⟨#[]⟩, .slice none 0 0, .slice none 0 0] 65 (0, 0))).alloc (.cells #[.int .i64 0, .string ty, .bool cr, .bool fl, .int .i64 n1, .int .i64 n2, .int .i64 n3, .string ck, .string tx, .string id, .slice a 0 c, .slice b 0 d] 65 (0, 0))).alloc (.cells #[.int .i64 0, .string ⟨#[49, 46, 50, 46, 51, 46, 52]⟩, .bool cr, .bool false, .int .i64 0, .int .i64 0, .int .i64 0, .string ⟨#[]⟩, .string tx, .string ⟨#[]⟩, .slice none 0 0, .slice none 0 0] 65 (0, 0))).heap[w.heap.size]? = some (.cells #[.int .i64 0, .string ty, .bool cr, .bool fl, .int .i64 n1, .int .i64 n2, .int .i64 n3, .string ck, .string tx, .string id, .slice a 0 c, .slice b 0 d] 65 (0, 0)) := heap_old (heap_old (heap_old (heap_new w _)))
  have H4 := Lib.hid (show ((((w.alloc (.cells #[.int .i64 0, .string ty, .bool cr, .bool fl, .int .i64 n1, .int .i64 n2, .int .i64 n3, .string ck, .string tx, .string id, .slice a 0 c, .slice b 0 d] 65 (0, 0))).alloc (.cells #[.int .i64 0, .string ⟨#[49, 46, 50, 46, 51, 46, 52]⟩, .bool cr, .bool false, .int .i64 0, .int .i64 0, .int .i64 0, .string ⟨#[]⟩, .string tx, .string ⟨#[]⟩, .slice none 0 0, .slice none 0 0] 65 (0, 0))).alloc (.cells #[.int .i64 0, .string ty, .bool cr, .bool fl, .int .i64 n1, .int .i64 n2, .int .i64 n3, .string ck, .string tx, .string id, .slice a 0 c, .slice b 0 d] 65 (0, 0))).alloc (.cells #[.int .i64 0, .string ⟨#[49, 46, 50, 46, 51, 46, 52]⟩, .bool cr, .bool false, .int .i64 0, .int .i64 0, .int .i64 0, .string ⟨#[]⟩, .string tx, .string ⟨#[]⟩, .slice none 0 0, .slice none 0 0] 65 (0, 0))).drew.heap[w.heap.size + 1]? = some (.cells #[.int .i64 0, .string ⟨#[49, 46, 50, 46, 51, 46, 52]⟩, .bool cr, .bool false, .int .i64 0, .int .i64 0, .int .i64 0, .string ⟨#[]⟩, .string tx, .string ⟨#[]⟩, .slice none 0 0, .slice none 0 0] 65 (0, 0)) ∧ ((((w.alloc (.cells #[.int .i64 0, .string ty, .bool cr, .bool fl, .int .i64 n1, .int .i64 n2, .int .i64 n3, .string ck, .string tx, .string id, .slice a 0 c, .slice b 0 d] 65 (0, 0))).alloc (.cells #[.int .i64 0, .string ⟨#[49, 46, 50, 46, 51, 46, 52]⟩, .bool cr, .bool false, .int .i64 0, .int .i64 0, .int .i64 0, .string ⟨#[]⟩, .string tx, .string ⟨#[]⟩, .slice none 0 0, .slice none 0 0] 65 (0, 0))).alloc (.cells #[.int .i64 0, .string ty, .bool cr, .bool fl, .int .i64 n1, .int .i64 n2, .int .i64 n3, .string ck, .string tx, .string id, .slice a 0 c, .slice b 0 d] 65 (0, 0))).alloc (.cells #[.int .i64 0, .string ⟨#[49, 46, 50, 46, 51, 46, 52]⟩, .bool cr, .bool false, .int .i64 0, .int .i64 0, .int .i64 0, .string ⟨#[]⟩, .string tx, .string ⟨#[]⟩, .slice none 0 0, .slice none 0 0] 65 (0, 0))).drew.heap[w.heap.size + 1 + 1]? = some (.cells #[.int .i64 0, .string ty, .bool cr, .bool fl, .int .i64 n1, .int .i64 n2, .int .i64 n3, .string ck, .string tx, .string id, .slice a 0 c, .slice b 0 d] 65 (0, 0)) ∧ ((((w.alloc (.cells #[.int .i64 0, .string ty, .bool cr, .bool fl, .int .i64 n1, .int .i64 n2, .int .i64 n3, .string ck, .string tx, .string id, .slice a 0 c, .slice b 0 d] 65 (0, 0))).alloc (.cells #[.int .i64 0, .string ⟨#[49, 46, 50, 46, 51, 46, 52]⟩, .bool cr, .bool false, .int .i64 0, .int .i64 0, .int .i64 0, .string ⟨#[]⟩, .string tx, .string ⟨#[]⟩, .slice none 0 0, .slice none 0 0] 65 (0, 0))).alloc (.cells #[.int .i64 0, .string ty, .bool cr, .bool fl, .int .i64 n1, .int .i64 n2, .int .i64 n3, .string ck, .string tx, .string id, .slice a 0 c, .slice b 0 d] 65 (0, 0))).alloc (.cells #[.int .i64 0, .string ⟨#[49, 46, 50, 46, 51, 46, 52]⟩, .bool cr, .bool false, .int .i64 0, .int .i64 0, .int .i64 0, .string ⟨#[]⟩, .string tx, .string ⟨#[]⟩, .slice none 0 0, .slice none 0 0] 65 (0, 0))).drew.heap[w.heap.size + 1 + 1 + 1]? = some (.cells #[.int .i64 0, .string ⟨#[49, 46, 50, 46, 51, 46, 52]⟩, .bool cr, .bool false, .int .i64 0, .int .i64 0, .int .i64 0, .string ⟨#[]⟩, .string tx, .string ⟨#[]⟩, .slice none 0 0, .slice none 0 0] 65 (0, 0)) ∧ Ext none_ w ((((w.alloc (.cells #[.int .i64 0, .string ty, .bool cr, .bool fl, .int .i64 n1, .int .i64 n2, .int .i64 n3, .string ck, .string tx, .string id, .slice a 0 c, .slice b 0 d] 65 (0, 0))).alloc (.cells #[.int .i64 0, .string ⟨#[49, 46, 50, 46, 51, 46, 52]⟩, .bool cr, .bool false, .int .i64 0, .int .i64 0, .int .i64 0, .string ⟨#[]⟩, .string tx, .string ⟨#[]⟩, .slice none 0 0, .slice none 0 0] 65 (0, 0))).alloc (.cells #[.int .i64 0, .string ty, .bool cr, .bool fl, .int .i64 n1, .int .i64 n2, .int .i64 n3, .string ck, .string tx, .string id, .slice a 0 c, .slice b 0 d] 65 (0, 0))).alloc (.cells #[.int .i64 0, .string ⟨#[49, 46, 50, 46, 51, 46, 52]⟩, .bool cr, .bool false, .int .i64 0, .int .i64 0, .int .i64 0, .string ⟨#[]⟩, .string tx, .string ⟨#[]⟩, .slice none 0 0, .slice none 0 0] 65 (0, 0))).drew from ⟨h4.1, h4.2.1, h4.2.2.1, h4.2.2.2.drew⟩)
  have H5 := Lib.hid (show ((((w.alloc (.cells #[.int .i64 0, .string ty, .bool cr, .bool fl, .int .i64 n1, .int .i64 n2, .int .i64 n3, .string ck, .string tx, .string id, .slice a 0 c, .slice b 0 d] 65 (0, 0))).alloc (.cells #[.int .i64 0, .string ⟨#[49, 46, 50, 46, 51, 46, 52]⟩, .bool cr, .bool false, .int .i64 0, .int .i64 0, .int .i64 0, .string ⟨#[]⟩, .string tx, .string ⟨#[]⟩, .slice none 0 0, .slice none 0 0] 65 (0, 0))).alloc (.cells #[.int .i64 0, .string ty, .bool cr, .bool fl, .int .i64 n1, .int .i64 n2, .int .i64 n3, .string ck, .string tx, .string id, .slice a 0 c, .slice b 0 d] 65 (0, 0))).alloc (.cells #[.int .i64 0, .string ⟨#[49, 46, 50, 46, 51, 46, 52]⟩, .bool cr, .bool false, .int .i64 0, .int .i64 0, .int .i64 0, .string ⟨#[]⟩, .string tx, .string ⟨#[]⟩, .slice none 0 0, .slice none 0 0] 65 (0, 0))).drew.heap[w.heap.size]? = some (.cells #[.int .i64 0, .string ty, .bool cr, .bool fl, .int .i64 n1, .int .i64 n2, .int .i64 n3, .string ck, .string tx, .string id, .slice a 0 c, .slice b 0 d] 65 (0, 0)) from h5)
  clear h4 h5
  go_enter Tryz.func24, Tryz.ntmps24
  go_wp2_with fail
  go_region
  go_wp2_with fail
  refine (ldapSame_one _ (w.heap.size + 1 + 1) (w.heap.size + 1 + 1 + 1) _ _ _ _ _ _ _ _ _ _ _ _ _ _ _ _ _ _ _ _ _ _ _ _ _ _ _ _ H4.out.2.1 H4.out.2.2.1).mono ?_
  rintro e w3 ⟨r, rfl, hr, E3⟩
  have cb := Lib.cell_of_heap (E3.get H5.out (fun h => h))
  have EF := H4.out.2.2.2.trans E3
  have HR := Lib.hid hr
  clear hr H4 H5
  cases r
  · go_wp2_with fail
    go_ret
    exact ⟨false, rfl, (fun h => by cases h), EF⟩
  have hr := HR.out (by trivial)
  by_cases h0 : tx.size ≤ 40
  case neg =>
    have hi0 : ¬ ((tx.size : Int) ≤ 40) := by omega
    go_wp2_with fail
    go_ret
    first
      | exact ⟨false, rfl, (fun h => by cases h), EF⟩
      | exact ⟨_, rfl, (fun h => by simp at h; omega), EF⟩
  have hi0 : (tx.size : Int) ≤ 40 := by omega
  go_wp2_with fail
  go_ret
  refine ⟨_, rfl, fun _ => HQ.out.mp ?_, EF⟩
  simp [hr, empty_size, h0]


set_option maxHeartbeats 2000000 in
set_option maxRecDepth 100000 in
theorem known1_any (w : World) (n1 n2 n3 : Int) (ty ck tx id : ByteArray) (cr fl : Bool) (a b : Option Addr) (kn inn c d : Nat) :
    Calls Tryz.prog 24 #[.agg #[.int .i64 1, .string ty, .bool cr, .bool fl, .int .i64 n1, .int .i64 n2, .int .i64 n3, .string ck, .string tx, .string id, .slice a kn c, .slice b inn d]] w (YesIfE (kn = 0 ∧ inn = 0 ∧ (1 = 1 ∧ ty = ⟨#[]⟩ ∧ cr = false ∧ fl = false ∧ n1 = n1 ∧ n2 = 0 ∧ n3 = 0 ∧ ck = ck ∧ tx = ⟨#[]⟩ ∧ id = ⟨#[]⟩) ∧ 0 ≤ n1 ∧ n1 < 2147483648 ∧ tx.size ≤ 40 ∧ ck.size ≤ 40) w) := by
  obtain ⟨Q, hQ⟩ : ∃ Q : Prop, Hid (Q = (kn = 0 ∧ inn = 0 ∧ (1 = 1 ∧ ty = ⟨#[]⟩ ∧ cr = false ∧ fl = false ∧ n1 = n1 ∧ n2 = 0 ∧ n3 = 0 ∧ ck = ck ∧ tx = ⟨#[]⟩ ∧ id = ⟨#[]⟩) ∧ 0 ≤ n1 ∧ n1 < 2147483648 ∧ tx.size ≤ 40 ∧ ck.size ≤ 40)) ∧ True := ⟨_, Lib.hid rfl, trivial⟩
  have HQ : Hid ((kn = 0 ∧ inn = 0 ∧ (1 = 1 ∧ ty = ⟨#[]⟩ ∧ cr = false ∧ fl = false ∧ n1 = n1 ∧ n2 = 0 ∧ n3 = 0 ∧ ck = ck ∧ tx = ⟨#[]⟩ ∧ id = ⟨#[]⟩) ∧ 0 ≤ n1 ∧ n1 < 2147483648 ∧ tx.size ≤ 40 ∧ ck.size ≤ 40) = Q) := Lib.hid hQ.1.out.symm
  rw [HQ.out]
  clear hQ
  by_cases hkn : kn = 0
  case neg =>
    have hki : ¬ (kn : Int) = 0 := by omega
    have E2 := (two_new w (.cells #[.int .i64 1, .string ty, .bool cr, .bool fl, .int .i64 n1, .int .i64 n2, .int .i64 n3, .string ck, .string tx, .string id, .slice a kn c, .slice b inn d] 65 (0, 0)) (.cells #[.int .i64 1, .string ⟨#[]⟩, .bool false, .bool false, .int .i64 n1, .int .i64 0, .int .i64 0, .string ck, .string ⟨#[]⟩, .string ⟨#[]⟩, .slice none 0 0, .slice none 0 0] 65 (0, 0))).2.2
    go_enter Tryz.func24, Tryz.ntmps24
    go_wp2_with fail
    go_region
    go_wp2_with fail
    go_ret
    exact ⟨false, rfl, (fun h => by cases h), E2.drew⟩
  subst hkn
  by_cases hin : inn = 0
  case neg =>
    have hki : ¬ (inn : Int) = 0 := by omega
    have E2 := (two_new w (.cells #[.int .i64 1, .string ty, .bool cr, .bool fl, .int .i64 n1, .int .i64 n2, .int .i64 n3, .string ck, .string tx, .string id, .slice a 0 c, .slice b inn d] 65 (0, 0)) (.cells #[.int .i64 1, .string ⟨#[]⟩, .bool false, .bool false, .int .i64 n1, .int .i64 0, .int .i64 0, .string ck, .string ⟨#[]⟩, .string ⟨#[]⟩, .slice none 0 0, .slice none 0 0] 65 (0, 0))).2.2
    go_enter Tryz.func24, Tryz.ntmps24
    go_wp2_with fail
    go_region
    go_wp2_with fail
    go_ret
    exact ⟨false, rfl, (fun h => by cases h), E2.drew⟩
  subst hin
  have h4 := three_new w (.cells #[.int .i64 1, .string ty, .bool cr, .bool fl, .int .i64 n1, .int .i64 n2, .int .i64 n3, .string ck, .string tx, .string id, .slice a 0 c, .slice b 0 d] 65 (0, 0)) (.cells #[.int .i64 1, .string ⟨#[]⟩, .bool false, .bool false, .int .i64 n1, .int .i64 0, .int .i64 0, .string ck, .string ⟨#[]⟩, .string ⟨#[]⟩, .slice none 0 0, .slice none 0 0] 65 (0, 0)) (.cells #[.int .i64 1, .string ty, .bool cr, .bool fl, .int .i64 n1, .int .i64 n2, .int .i64 n3, .string ck, .string tx, .string id, .slice a 0 c, .slice b 0 d] 65 (0, 0)) (.cells #[.int .i64 1, .string ⟨#[]⟩, .bool false, .bool false, .int .i64 n1, .int .i64 0, .int .i64 0, .string ck, .string ⟨#[]⟩, .string ⟨#[]⟩, .slice none 0 0, .slice none 0 0] 65 (0, 0))
  have h5 : ((((w.alloc (.cells #[.int .i64 1, .string ty, .bool cr, .bool fl, .int .i64 n1, .int .i64 n2, .int .i64 n3, .string ck, .string tx, .string id, .slice a 0 c, .slice b 0 d] 65 (0, 0))).alloc (.cells #[.int .i64 1, .string ⟨#[]⟩, .bool false, .bool false, .int .i64 n1, .int .i64 0, .int .i64 0, .string ck, .string ⟨#[]⟩, .string ⟨#[]⟩, .slice none 0 0, .slice none 0 0] 65 (0, 0))).alloc (.cells #[.int .i64 1, .string ty, .bool cr, .bool fl, .int .i64 n1, .int .i64 n2, .int .i64 n3, .string ck, .string tx, .string id, .slice a 0 c, .slice b 0 d] 65 (0, 0))).alloc (.cells #[.int .i64 1, .string ⟨#[]⟩, .bool false, .bool false, .int .i64 n1, .int .i64 0, .int .i64 0, .string ck, .string ⟨#[]⟩, .string ⟨#[]⟩, .slice none 0 0, .slice none 0 0] 65 (0, 0))).heap[w.heap.size]? = some (.cells #[.int .i64 1, .string ty, .bool cr, .bool fl, .int .i64 n1, .int .i64 n2, .int .i64 n3, .string ck, .string tx, .string id, .slice a 0 c, .slice b 0 d] 65 (0, 0)) := heap_old (heap_old (heap_old (heap_new w _)))
  have H4 := Lib.hid (show ((((w.alloc (.cells #[.int .i64 1, .string ty, .bool cr, .bool fl, .int .i64 n1, .int .i64 n2, .int .i64 n3, .string ck, .string tx, .string id, .slice a 0 c, .slice b 0 d] 65 (0, 0))).alloc (.cells #[.int .i64 1, .string ⟨#[]⟩, .bool false, .bool false, .int .i64 n1, .int .i64 0, .int .i64 0, .string ck, .string ⟨#[]⟩, .string ⟨#[]⟩, .slice none 0 0, .slice none 0 0] 65 (0, 0))).alloc (.cells #[.int .i64 1, .string ty, .bool cr, .bool fl, .int .i64 n1, .int .i64 n2, .int .i64 n3, .string ck, .string tx, .string id, .slice a 0 c, .slice b 0 d] 65 (0, 0))).alloc (.cells #[.int .i64 1, .string ⟨#[]⟩, .bool false, .bool false, .int .i64 n1, .int .i64 0, .int .i64 0, .string ck, .string ⟨#[]⟩, .string ⟨#[]⟩, .slice none 0 0, .slice none 0 0] 65 (0, 0))).drew.heap[w.heap.size + 1]? = some (.cells #[.int .i64 1, .string ⟨#[]⟩, .bool false, .bool false, .int .i64 n1, .int .i64 0, .int .i64 0, .string ck, .string ⟨#[]⟩, .string ⟨#[]⟩, .slice none 0 0, .slice none 0 0] 65 (0, 0)) ∧ ((((w.alloc (.cells #[.int .i64 1, .string ty, .bool cr, .bool fl, .int .i64 n1, .int .i64 n2, .int .i64 n3, .string ck, .string tx, .string id, .slice a 0 c, .slice b 0 d] 65 (0, 0))).alloc (.cells #[.int .i64 1, .string ⟨#[]⟩, .bool false, .bool false, .int .i64 n1, .int .i64 0, .int .i64 0, .string ck, .string ⟨#[]⟩, .string ⟨#[]⟩, .slice none 0 0, .slice none 0 0] 65 (0, 0))).alloc (.cells #[.int .i64 1, .string ty, .bool cr, .bool fl, .int .i64 n1, .int .i64 n2, .int .i64 n3, .string ck, .string tx, .string id, .slice a 0 c, .slice b 0 d] 65 (0, 0))).alloc (.cells #[.int .i64 1, .string ⟨#[]⟩, .bool false, .bool false, .int .i64 n1, .int .i64 0, .int .i64 0, .string ck, .string ⟨#[]⟩, .string ⟨#[]⟩, .slice none 0 0, .slice none 0 0] 65 (0, 0))).drew.heap[w.heap.size + 1 + 1]? = some (.cells #[.int .i64 1, .string ty, .bool cr, .bool fl, .int .i64 n1, .int .i64 n2, .int .i64 n3, .string ck, .string tx, .string id, .slice a 0 c, .slice b 0 d] 65 (0, 0)) ∧ ((((w.alloc (.cells #[.int .i64 1, .string ty, .bool cr, .bool fl, .int .i64 n1, .int .i64 n2, .int .i64 n3, .string ck, .string tx, .string id, .slice a 0 c, .slice b 0 d] 65 (0, 0))).alloc (.cells #[.int .i64 1, .string ⟨#[]⟩, .bool false, .bool false, .int .i64 n1, .int .i64 0, .int .i64 0, .string ck, .string ⟨#[]⟩, .string ⟨#[]⟩, .slice none 0 0, .slice none 0 0] 65 (0, 0))).alloc (.cells #[.int .i64 1, .string ty, .bool cr, .bool fl, .int .i64 n1, .int .i64 n2, .int .i64 n3, .string ck, .string tx, .string id, .slice a 0 c, .slice b 0 d] 65 (0, 0))).alloc (.cells #[.int .i64 1, .string ⟨#[]⟩, .bool false, .bool false, .int .i64 n1, .int .i64 0, .int .i64 0, .string ck, .string ⟨#[]⟩, .string ⟨#[]⟩, .slice none 0 0, .slice none 0 0] 65 (0, 0))).drew.heap[w.heap.size + 1 + 1 + 1]? = some (.cells #[.int .i64 1, .string ⟨#[]⟩, .bool false, .bool false, .int .i64 n1, .int .i64 0, .int .i64 0, .string ck, .string ⟨#[]⟩, .string ⟨#[]⟩, .slice none 0 0, .slice none 0 0] 65 (0, 0)) ∧ Ext none_ w ((((w.alloc (.cells #[.int .i64 1, .string ty, .bool cr, .bool fl, .int .i64 n1, .int .i64 n2, .int .i64 n3, .string ck, .string tx, .string id, .slice a 0 c, .slice b 0 d] 65 (0, 0))).alloc (.cells #[.int .i64 1, .string ⟨#[]⟩, .bool false, .bool false, .int .i64 n1, .int .i64 0, .int .i64 0, .string ck, .string ⟨#[]⟩, .string ⟨#[]⟩, .slice none 0 0, .slice none 0 0] 65 (0, 0))).alloc (.cells #[.int .i64 1, .string ty, .bool cr, .bool fl, .int .i64 n1, .int .i64 n2, .int .i64 n3, .string ck, .string tx, .string id, .slice a 0 c, .slice b 0 d] 65 (0, 0))).alloc (.cells #[.int .i64 1, .string ⟨#[]⟩, .bool false, .bool false, .int .i64 n1, .int .i64 0, .int .i64 0, .string ck, .string ⟨#[]⟩, .string ⟨#[]⟩, .slice none 0 0, .slice none 0 0] 65 (0, 0))).drew from ⟨h4.1, h4.2.1, h4.2.2.1, h4.2.2.2.drew⟩)
  have H5 := Lib.hid (show ((((w.alloc (.cells #[.int .i64 1, .string ty, .bool cr, .bool fl, .int .i64 n1, .int .i64 n2, .int .i64 n3, .string ck, .string tx, .string id, .slice a 0 c, .slice b 0 d] 65 (0, 0))).alloc (.cells #[.int .i64 1, .string ⟨#[]⟩, .bool false, .bool false, .int .i64 n1, .int .i64 0, .int .i64 0, .string ck, .string ⟨#[]⟩, .string ⟨#[]⟩, .slice none 0 0, .slice none 0 0] 65 (0, 0))).alloc (.cells #[.int .i64 1, .string ty, .bool cr, .bool fl, .int .i64 n1, .int .i64 n2, .int .i64 n3, .string ck, .string tx, .string id, .slice a 0 c, .slice b 0 d] 65 (0, 0))).alloc (.cells #[.int .i64 1, .string ⟨#[]⟩, .bool false, .bool false, .int .i64 n1, .int .i64 0, .int .i64 0, .string ck, .string ⟨#[]⟩, .string ⟨#[]⟩, .slice none 0 0, .slice none 0 0] 65 (0, 0))).drew.heap[w.heap.size]? = some (.cells #[.int .i64 1, .string ty, .bool cr, .bool fl, .int .i64 n1, .int .i64 n2, .int .i64 n3, .string ck, .string tx, .string id, .slice a 0 c, .slice b 0 d] 65 (0, 0)) from h5)
  clear h4 h5
  go_enter Tryz.func24, Tryz.ntmps24
  go_wp2_with fail
  go_region
  go_wp2_with fail
  refine (ldapSame_one _ (w.heap.size + 1 + 1) (w.heap.size + 1 + 1 + 1) _ _ _ _ _ _ _ _ _ _ _ _ _ _ _ _ _ _ _ _ _ _ _ _ _ _ _ _ H4.out.2.1 H4.out.2.2.1).mono ?_
  rintro e w3 ⟨r, rfl, hr, E3⟩
  have cb := Lib.cell_of_heap (E3.get H5.out (fun h => h))
  have EF := H4.out.2.2.2.trans E3
  have HR := Lib.hid hr
  clear hr H4 H5
  cases r
  · go_wp2_with fail
    go_ret
    exact ⟨false, rfl, (fun h => by cases h), EF⟩
  have hr := HR.out (by trivial)
  by_cases h0 : 0 ≤ n1
  case neg =>
    have hi0 : ¬ (0 ≤ n1) := by omega
    go_wp2_with fail
    go_ret
    first
      | exact ⟨false, rfl, (fun h => by cases h), EF⟩
      | exact ⟨_, rfl, (fun h => by simp at h; omega), EF⟩
  have hi0 : 0 ≤ n1 := by omega
  by_cases h1 : n1 < 2147483648
  case neg =>
    have hi1 : ¬ (n1 < 2147483648) := by omega
    go_wp2_with fail
    go_ret
    first
      | exact ⟨false, rfl, (fun h => by cases h), EF⟩
      | exact ⟨_, rfl, (fun h => by simp at h; omega), EF⟩
  have hi1 : n1 < 2147483648 := by omega
  by_cases h2 : ck.size ≤ 40
  case neg =>
    have hi2 : ¬ ((ck.size : Int) ≤ 40) := by omega
    go_wp2_with fail
    go_ret
    first
      | exact ⟨false, rfl, (fun h => by cases h), EF⟩
      | exact ⟨_, rfl, (fun h => by simp at h; omega), EF⟩
  have hi2 : (ck.size : Int) ≤ 40 := by omega
  go_wp2_with fail
  go_ret
  refine ⟨_, rfl, fun _ => HQ.out.mp ?_, EF⟩
  simp [hr, empty_size, h0, h1, h2]


end Go.Proofs.YtocjfcgailkfjaaGreatDoor
end

section
namespace Go.Proofs.YtocjfcgailkfjaaGreatDoor
open Go.RowKit

set_option maxHeartbeats 1000000 in
set_option maxRecDepth 100000 in
theorem known_other (w : World) (k n1 n2 n3 : Int) (ty ck tx id : ByteArray) (cr fl : Bool) (a b : Option Addr) (kn inn c d : Nat) (h0 : ¬ k = 0) (h1 : ¬ k = 1) (h5 : ¬ k = 5) (h8 : ¬ k = 8) (h9 : ¬ k = 9) (h10 : ¬ k = 10) :
    Calls Tryz.prog 24 #[.agg #[.int .i64 k, .string ty, .bool cr, .bool fl, .int .i64 n1, .int .i64 n2, .int .i64 n3, .string ck, .string tx, .string id, .slice a kn c, .slice b inn d]] w fun e w' => e = .returned (.bool false) ∧ Ext none_ w w' := by
  go_enter Tryz.func24, Tryz.ntmps24
  go_wp2_with fail
  go_ret
  exact ⟨rfl, ((Ext.refl none_ w).alloc _).alloc _⟩

end Go.Proofs.YtocjfcgailkfjaaGreatDoor
end
