/- ldapKnown. -/
import Derived.Test.YtocjfcgailkfjaaGreatDoorMN3
import Derived.BigRegion

set_option linter.unusedVariables false
set_option linter.unusedSimpArgs false
set_option linter.unusedSectionVars false

section
namespace Go.Proofs.YtocjfcgailkfjaaGreatDoor
open Go.RowKit

theorem empty_size : (⟨#[]⟩ : ByteArray).size = 0 := rfl

set_option maxHeartbeats 2000000 in
set_option maxRecDepth 100000 in
theorem known8_any (w : World) (n1 n2 n3 : Int) (ty ck tx id : ByteArray) (cr fl : Bool) (a b : Option Addr) (kn inn c d : Nat) :
    Calls Tryz.prog 24 #[.agg #[.int .i64 8, .string ty, .bool cr, .bool fl, .int .i64 n1, .int .i64 n2, .int .i64 n3, .string ck, .string tx, .string id, .slice a kn c, .slice b inn d]] w (YesIfE (kn = 0 ∧ inn = 0 ∧ (8 = 8 ∧ ty = ⟨#[]⟩ ∧ cr = false ∧ fl = false ∧ n1 = 0 ∧ n2 = 0 ∧ n3 = 0 ∧ ck = ⟨#[]⟩ ∧ tx = ⟨#[]⟩ ∧ id = ⟨#[]⟩) ∧ 0 ≤ n1 ∧ n1 < 2147483648 ∧ tx.size ≤ 40 ∧ ck.size ≤ 40) w) := by
  obtain ⟨Q, hQ⟩ : ∃ Q : Prop, Hid (Q = (kn = 0 ∧ inn = 0 ∧ (8 = 8 ∧ ty = ⟨#[]⟩ ∧ cr = false ∧ fl = false ∧ n1 = 0 ∧ n2 = 0 ∧ n3 = 0 ∧ ck = ⟨#[]⟩ ∧ tx = ⟨#[]⟩ ∧ id = ⟨#[]⟩) ∧ 0 ≤ n1 ∧ n1 < 2147483648 ∧ tx.size ≤ 40 ∧ ck.size ≤ 40)) ∧ True := ⟨_, Lib.hid rfl, trivial⟩
  have HQ : Hid ((kn = 0 ∧ inn = 0 ∧ (8 = 8 ∧ ty = ⟨#[]⟩ ∧ cr = false ∧ fl = false ∧ n1 = 0 ∧ n2 = 0 ∧ n3 = 0 ∧ ck = ⟨#[]⟩ ∧ tx = ⟨#[]⟩ ∧ id = ⟨#[]⟩) ∧ 0 ≤ n1 ∧ n1 < 2147483648 ∧ tx.size ≤ 40 ∧ ck.size ≤ 40) = Q) := Lib.hid hQ.1.out.symm
  rw [HQ.out]
  clear hQ
  by_cases hkn : kn = 0
  case neg =>
    have hki : ¬ (kn : Int) = 0 := by omega
    have E2 := (two_new w (.cells #[.int .i64 8, .string ty, .bool cr, .bool fl, .int .i64 n1, .int .i64 n2, .int .i64 n3, .string ck, .string tx, .string id, .slice a kn c, .slice b inn d] 65 (0, 0)) (.cells #[.int .i64 8, .string ⟨#[]⟩, .bool false, .bool false, .int .i64 0, .int .i64 0, .int .i64 0, .string ⟨#[]⟩, .string ⟨#[]⟩, .string ⟨#[]⟩, .slice none 0 0, .slice none 0 0] 65 (0, 0))).2.2
    go_enter Tryz.func24, Tryz.ntmps24
    go_wp2_with fail
    go_ret
    exact ⟨false, rfl, (fun h => by cases h), E2⟩
  subst hkn
  by_cases hin : inn = 0
  case neg =>
    have hki : ¬ (inn : Int) = 0 := by omega
    have E2 := (two_new w (.cells #[.int .i64 8, .string ty, .bool cr, .bool fl, .int .i64 n1, .int .i64 n2, .int .i64 n3, .string ck, .string tx, .string id, .slice a 0 c, .slice b inn d] 65 (0, 0)) (.cells #[.int .i64 8, .string ⟨#[]⟩, .bool false, .bool false, .int .i64 0, .int .i64 0, .int .i64 0, .string ⟨#[]⟩, .string ⟨#[]⟩, .string ⟨#[]⟩, .slice none 0 0, .slice none 0 0] 65 (0, 0))).2.2
    go_enter Tryz.func24, Tryz.ntmps24
    go_wp2_with fail
    go_ret
    exact ⟨false, rfl, (fun h => by cases h), E2⟩
  subst hin
  have h4 := three_new w (.cells #[.int .i64 8, .string ty, .bool cr, .bool fl, .int .i64 n1, .int .i64 n2, .int .i64 n3, .string ck, .string tx, .string id, .slice a 0 c, .slice b 0 d] 65 (0, 0)) (.cells #[.int .i64 8, .string ⟨#[]⟩, .bool false, .bool false, .int .i64 0, .int .i64 0, .int .i64 0, .string ⟨#[]⟩, .string ⟨#[]⟩, .string ⟨#[]⟩, .slice none 0 0, .slice none 0 0] 65 (0, 0)) (.cells #[.int .i64 8, .string ty, .bool cr, .bool fl, .int .i64 n1, .int .i64 n2, .int .i64 n3, .string ck, .string tx, .string id, .slice a 0 c, .slice b 0 d] 65 (0, 0)) (.cells #[.int .i64 8, .string ⟨#[]⟩, .bool false, .bool false, .int .i64 0, .int .i64 0, .int .i64 0, .string ⟨#[]⟩, .string ⟨#[]⟩, .string ⟨#[]⟩, .slice none 0 0, .slice none 0 0] 65 (0, 0))
  have h5 : ((((w.alloc (.cells #[.int .i64 8, .string ty, .bool cr, .bool fl, .int .i64 n1, .int .i64 n2, .int .i64 n3, .string ck, .string tx, .string id, .slice a 0 c, .slice b 0 d] 65 (0, 0))).alloc (.cells #[.int .i64 8, .string ⟨#[]⟩, .bool false, .bool false, .int .i64 0, .int .i64 0, .int .i64 0, .string ⟨#[]⟩, .string ⟨#[]⟩, .string ⟨#[]⟩, .slice none 0 0, .slice none 0 0] 65 (0, 0))).alloc (.cells #[.int .i64 8, .string ty, .bool cr, .bool fl, .int .i64 n1, .int .i64 n2, .int .i64 n3, .string ck, .string tx, .string id, .slice a 0 c, .slice b 0 d] 65 (0, 0))).alloc (.cells #[.int .i64 8, .string ⟨#[]⟩, .bool false, .bool false, .int .i64 0, .int .i64 0, .int .i64 0, .string ⟨#[]⟩, .string ⟨#[]⟩, .string ⟨#[]⟩, .slice none 0 0, .slice none 0 0] 65 (0, 0))).heap[w.heap.size]? = some (.cells #[.int .i64 8, .string ty, .bool cr, .bool fl, .int .i64 n1, .int .i64 n2, .int .i64 n3, .string ck, .string tx, .string id, .slice a 0 c, .slice b 0 d] 65 (0, 0)) := heap_old (heap_old (heap_old (heap_new w _)))
  have H4 := Lib.hid h4
  have H5 := Lib.hid h5
  clear h4 h5
  go_enter Tryz.func24, Tryz.ntmps24
  go_wp2_with fail
  refine (ldapSame_one _ (w.heap.size + 1 + 1) (w.heap.size + 1 + 1 + 1) _ _ _ _ _ _ _ _ _ _ _ _ _ _ _ _ _ _ _ _ _ _ _ _ _ _ _ _ H4.out.2.1 H4.out.2.2.1).mono ?_
  rintro e w3 ⟨r, rfl, hr, E3⟩
  have cb := Lib.cell_of_heap (E3.get H5.out (fun h => h))
  have EF := H4.out.2.2.2.trans E3
  have HR := Lib.hid hr
  clear hr H4 H5
  cases r
  · go_wp2_with fail
    go_ret
    exact ⟨false, rfl, (fun h => by cases h), EF⟩
  have hr := HR.out (by trivial)
  go_wp2_with fail
  go_ret
  refine ⟨true, rfl, fun _ => HQ.out.mp ?_, EF⟩
  simp [hr, empty_size]

set_option maxHeartbeats 2000000 in
set_option maxRecDepth 100000 in
theorem known9_any (w : World) (n1 n2 n3 : Int) (ty ck tx id : ByteArray) (cr fl : Bool) (a b : Option Addr) (kn inn c d : Nat) :
    Calls Tryz.prog 24 #[.agg #[.int .i64 9, .string ty, .bool cr, .bool fl, .int .i64 n1, .int .i64 n2, .int .i64 n3, .string ck, .string tx, .string id, .slice a kn c, .slice b inn d]] w (YesIfE (kn = 0 ∧ inn = 0 ∧ (9 = 9 ∧ ty = ⟨#[]⟩ ∧ cr = false ∧ fl = false ∧ n1 = 0 ∧ n2 = 0 ∧ n3 = 0 ∧ ck = ⟨#[]⟩ ∧ tx = ⟨#[]⟩ ∧ id = ⟨#[]⟩) ∧ 0 ≤ n1 ∧ n1 < 2147483648 ∧ tx.size ≤ 40 ∧ ck.size ≤ 40) w) := by
  obtain ⟨Q, hQ⟩ : ∃ Q : Prop, Hid (Q = (kn = 0 ∧ inn = 0 ∧ (9 = 9 ∧ ty = ⟨#[]⟩ ∧ cr = false ∧ fl = false ∧ n1 = 0 ∧ n2 = 0 ∧ n3 = 0 ∧ ck = ⟨#[]⟩ ∧ tx = ⟨#[]⟩ ∧ id = ⟨#[]⟩) ∧ 0 ≤ n1 ∧ n1 < 2147483648 ∧ tx.size ≤ 40 ∧ ck.size ≤ 40)) ∧ True := ⟨_, Lib.hid rfl, trivial⟩
  have HQ : Hid ((kn = 0 ∧ inn = 0 ∧ (9 = 9 ∧ ty = ⟨#[]⟩ ∧ cr = false ∧ fl = false ∧ n1 = 0 ∧ n2 = 0 ∧ n3 = 0 ∧ ck = ⟨#[]⟩ ∧ tx = ⟨#[]⟩ ∧ id = ⟨#[]⟩) ∧ 0 ≤ n1 ∧ n1 < 2147483648 ∧ tx.size ≤ 40 ∧ ck.size ≤ 40) = Q) := Lib.hid hQ.1.out.symm
  rw [HQ.out]
  clear hQ
  by_cases hkn : kn = 0
  case neg =>
    have hki : ¬ (kn : Int) = 0 := by omega
    have E2 := (two_new w (.cells #[.int .i64 9, .string ty, .bool cr, .bool fl, .int .i64 n1, .int .i64 n2, .int .i64 n3, .string ck, .string tx, .string id, .slice a kn c, .slice b inn d] 65 (0, 0)) (.cells #[.int .i64 9, .string ⟨#[]⟩, .bool false, .bool false, .int .i64 0, .int .i64 0, .int .i64 0, .string ⟨#[]⟩, .string ⟨#[]⟩, .string ⟨#[]⟩, .slice none 0 0, .slice none 0 0] 65 (0, 0))).2.2
    go_enter Tryz.func24, Tryz.ntmps24
    go_wp2_with fail
    go_ret
    exact ⟨false, rfl, (fun h => by cases h), E2⟩
  subst hkn
  by_cases hin : inn = 0
  case neg =>
    have hki : ¬ (inn : Int) = 0 := by omega
    have E2 := (two_new w (.cells #[.int .i64 9, .string ty, .bool cr, .bool fl, .int .i64 n1, .int .i64 n2, .int .i64 n3, .string ck, .string tx, .string id, .slice a 0 c, .slice b inn d] 65 (0, 0)) (.cells #[.int .i64 9, .string ⟨#[]⟩, .bool false, .bool false, .int .i64 0, .int .i64 0, .int .i64 0, .string ⟨#[]⟩, .string ⟨#[]⟩, .string ⟨#[]⟩, .slice none 0 0, .slice none 0 0] 65 (0, 0))).2.2
    go_enter Tryz.func24, Tryz.ntmps24
    go_wp2_with fail
    go_ret
    exact ⟨false, rfl, (fun h => by cases h), E2⟩
  subst hin
  have h4 := three_new w (.cells #[.int .i64 9, .string ty, .bool cr, .bool fl, .int .i64 n1, .int .i64 n2, .int .i64 n3, .string ck, .string tx, .string id, .slice a 0 c, .slice b 0 d] 65 (0, 0)) (.cells #[.int .i64 9, .string ⟨#[]⟩, .bool false, .bool false, .int .i64 0, .int .i64 0, .int .i64 0, .string ⟨#[]⟩, .string ⟨#[]⟩, .string ⟨#[]⟩, .slice none 0 0, .slice none 0 0] 65 (0, 0)) (.cells #[.int .i64 9, .string ty, .bool cr, .bool fl, .int .i64 n1, .int .i64 n2, .int .i64 n3, .string ck, .string tx, .string id, .slice a 0 c, .slice b 0 d] 65 (0, 0)) (.cells #[.int .i64 9, .string ⟨#[]⟩, .bool false, .bool false, .int .i64 0, .int .i64 0, .int .i64 0, .string ⟨#[]⟩, .string ⟨#[]⟩, .string ⟨#[]⟩, .slice none 0 0, .slice none 0 0] 65 (0, 0))
  have h5 : ((((w.alloc (.cells #[.int .i64 9, .string ty, .bool cr, .bool fl, .int .i64 n1, .int .i64 n2, .int .i64 n3, .string ck, .string tx, .string id, .slice a 0 c, .slice b 0 d] 65 (0, 0))).alloc (.cells #[.int .i64 9, .string ⟨#[]⟩, .bool false, .bool false, .int .i64 0, .int .i64 0, .int .i64 0, .string ⟨#[]⟩, .string ⟨#[]⟩, .string ⟨#[]⟩, .slice none 0 0, .slice none 0 0] 65 (0, 0))).alloc (.cells #[.int .i64 9, .string ty, .bool cr, .bool fl, .int .i64 n1, .int .i64 n2, .int .i64 n3, .string ck, .string tx, .string id, .slice a 0 c, .slice b 0 d] 65 (0, 0))).alloc (.cells #[.int .i64 9, .string ⟨#[]⟩, .bool false, .bool false, .int .i64 0, .int .i64 0, .int .i64 0, .string ⟨#[]⟩, .string ⟨#[]⟩, .string ⟨#[]⟩, .slice none 0 0, .slice none 0 0] 65 (0, 0))).heap[w.heap.size]? = some (.cells #[.int .i64 9, .string ty, .bool cr, .bool fl, .int .i64 n1, .int .i64 n2, .int .i64 n3, .string ck, .string tx, .string id, .slice a 0 c, .slice b 0 d] 65 (0, 0)) := heap_old (heap_old (heap_old (heap_new w _)))
  have H4 := Lib.hid h4
  have H5 := Lib.hid h5
  clear h4 h5
  go_enter Tryz.func24, Tryz.ntmps24
  go_wp2_with fail
  refine (ldapSame_one _ (w.heap.size + 1 + 1) (w.heap.size + 1 + 1 + 1) _ _ _ _ _ _ _ _ _ _ _ _ _ _ _ _ _ _ _ _ _ _ _ _ _ _ _ _ H4.out.2.1 H4.out.2.2.1).mono ?_
  rintro e w3 ⟨r, rfl, hr, E3⟩
  have cb := Lib.cell_of_heap (E3.get H5.out (fun h => h))
  have EF := H4.out.2.2.2.trans E3
  have HR := Lib.hid hr
  clear hr H4 H5
  cases r
  · go_wp2_with fail
    go_ret
    exact ⟨false, rfl, (fun h => by cases h), EF⟩
  have hr := HR.out (by trivial)
  go_wp2_with fail
  go_ret
  refine ⟨true, rfl, fun _ => HQ.out.mp ?_, EF⟩
  simp [hr, empty_size]

set_option maxHeartbeats 2000000 in
set_option maxRecDepth 100000 in
theorem known10_any (w : World) (n1 n2 n3 : Int) (ty ck tx id : ByteArray) (cr fl : Bool) (a b : Option Addr) (kn inn c d : Nat) :
    Calls Tryz.prog 24 #[.agg #[.int .i64 10, .string ty, .bool cr, .bool fl, .int .i64 n1, .int .i64 n2, .int .i64 n3, .string ck, .string tx, .string id, .slice a kn c, .slice b inn d]] w (YesIfE (kn = 0 ∧ inn = 0 ∧ (10 = 10 ∧ ty = ⟨#[]⟩ ∧ cr = false ∧ fl = false ∧ n1 = 0 ∧ n2 = 0 ∧ n3 = 0 ∧ ck = ⟨#[]⟩ ∧ tx = ⟨#[]⟩ ∧ id = ⟨#[]⟩) ∧ 0 ≤ n1 ∧ n1 < 2147483648 ∧ tx.size ≤ 40 ∧ ck.size ≤ 40) w) := by
  obtain ⟨Q, hQ⟩ : ∃ Q : Prop, Hid (Q = (kn = 0 ∧ inn = 0 ∧ (10 = 10 ∧ ty = ⟨#[]⟩ ∧ cr = false ∧ fl = false ∧ n1 = 0 ∧ n2 = 0 ∧ n3 = 0 ∧ ck = ⟨#[]⟩ ∧ tx = ⟨#[]⟩ ∧ id = ⟨#[]⟩) ∧ 0 ≤ n1 ∧ n1 < 2147483648 ∧ tx.size ≤ 40 ∧ ck.size ≤ 40)) ∧ True := ⟨_, Lib.hid rfl, trivial⟩
  have HQ : Hid ((kn = 0 ∧ inn = 0 ∧ (10 = 10 ∧ ty = ⟨#[]⟩ ∧ cr = false ∧ fl = false ∧ n1 = 0 ∧ n2 = 0 ∧ n3 = 0 ∧ ck = ⟨#[]⟩ ∧ tx = ⟨#[]⟩ ∧ id = ⟨#[]⟩) ∧ 0 ≤ n1 ∧ n1 < 2147483648 ∧ tx.size ≤ 40 ∧ ck.size ≤ 40) = Q) := Lib.hid hQ.1.out.symm
  rw [HQ.out]
  clear hQ
  by_cases hkn : kn = 0
  case neg =>
    have hki : ¬ (kn : Int) = 0 := by omega
    have E2 := (two_new w (.cells #[.int .i64 10, .string ty, .bool cr, .bool fl, .int .i64 n1, .int .i64 n2, .int .i64 n3, .string ck, .string tx, .string id, .slice a kn c, .slice b inn d] 65 (0, 0)) (.cells #[.int .i64 10, .string ⟨#[]⟩, .bool false, .bool false, .int .i64 0, .int .i64 0, .int .i64 0, .string ⟨#[]⟩, .string ⟨#[]⟩, .string ⟨#[]⟩, .slice none 0 0, .slice none 0 0] 65 (0, 0))).2.2
    go_enter Tryz.func24, Tryz.ntmps24
    go_wp2_with fail
    go_ret
    exact ⟨false, rfl, (fun h => by cases h), E2⟩
  subst hkn
  by_cases hin : inn = 0
  case neg =>
    have hki : ¬ (inn : Int) = 0 := by omega
    have E2 := (two_new w (.cells #[.int .i64 10, .string ty, .bool cr, .bool fl, .int .i64 n1, .int .i64 n2, .int .i64 n3, .string ck, .string tx, .string id, .slice a 0 c, .slice b inn d] 65 (0, 0)) (.cells #[.int .i64 10, .string ⟨#[]⟩, .bool false, .bool false, .int .i64 0, .int .i64 0, .int .i64 0, .string ⟨#[]⟩, .string ⟨#[]⟩, .string ⟨#[]⟩, .slice none 0 0, .slice none 0 0] 65 (0, 0))).2.2
    go_enter Tryz.func24, Tryz.ntmps24
    go_wp2_with fail
    go_ret
    exact ⟨false, rfl, (fun h => by cases h), E2⟩
  subst hin
  have h4 := three_new w (.cells #[.int .i64 10, .string ty, .bool cr, .bool fl, .int .i64 n1, .int .i64 n2, .int .i64 n3, .string ck, .string tx, .string id, .slice a 0 c, .slice b 0 d] 65 (0, 0)) (.cells #[.int .i64 10, .string ⟨#[]⟩, .bool false, .bool false, .int .i64 0, .int .i64 0, .int .i64 0, .string ⟨#[]⟩, .string ⟨#[]⟩, .string ⟨#[]⟩, .slice none 0 0, .slice none 0 0] 65 (0, 0)) (.cells #[.int .i64 10, .string ty, .bool cr, .bool fl, .int .i64 n1, .int .i64 n2, .int .i64 n3, .string ck, .string tx, .string id, .slice a 0 c, .slice b 0 d] 65 (0, 0)) (.cells #[.int .i64 10, .string ⟨#[]⟩, .bool false, .bool false, .int .i64 0, .int .i64 0, .int .i64 0, .string ⟨#[]⟩, .string ⟨#[]⟩, .string ⟨#[]⟩, .slice none 0 0, .slice none 0 0] 65 (0, 0))
  have h5 : ((((w.alloc (.cells #[.int .i64 10, .string ty, .bool cr, .bool fl, .int .i64 n1, .int .i64 n2, .int .i64 n3, .string ck, .string tx, .string id, .slice a 0 c, .slice b 0 d] 65 (0, 0))).alloc (.cells #[.int .i64 10, .string ⟨#[]⟩, .bool false, .bool false, .int .i64 0, .int .i64 0, .int .i64 0, .string ⟨#[]⟩, .string ⟨#[]⟩, .string ⟨#[]⟩, .slice none 0 0, .slice none 0 0] 65 (0, 0))).alloc (.cells #[.int .i64 10, .string ty, .bool cr, .bool fl, .int .i64 n1, .int .i64 n2, .int .i64 n3, .string ck, .string tx, .string id, .slice a 0 c, .slice b 0 d] 65 (0, 0))).alloc (.cells #[.int .i64 10, .string ⟨#[]⟩, .bool false, .bool false, .int .i64 0, .int .i64 0, .int .i64 0, .string ⟨#[]⟩, .string ⟨#[]⟩, .string ⟨#[]⟩, .slice none 0 0, .slice none 0 0] 65 (0, 0))).heap[w.heap.size]? = some (.cells #[.int .i64 10, .string ty, .bool cr, .bool fl, .int .i64 n1, .int .i64 n2, .int .i64 n3, .string ck, .string tx, .string id, .slice a 0 c, .slice b 0 d] 65 (0, 0)) := heap_old (heap_old (heap_old (heap_new w _)))
  have H4 := Lib.hid h4
  have H5 := Lib.hid h5
  clear h4 h5
  go_enter Tryz.func24, Tryz.ntmps24
  go_wp2_with fail
  refine (ldapSame_one _ (w.heap.size + 1 + 1) (w.heap.size + 1 + 1 + 1) _ _ _ _ _ _ _ _ _ _ _ _ _ _ _ _ _ _ _ _ _ _ _ _ _ _ _ _ H4.out.2.1 H4.out.2.2.1).mono ?_
  rintro e w3 ⟨r, rfl, hr, E3⟩
  have cb := Lib.cell_of_heap (E3.get H5.out (fun h => h))
  have EF := H4.out.2.2.2.trans E3
  have HR := Lib.hid hr
  clear hr H4 H5
  cases r
  · go_wp2_with fail
    go_ret
    exact ⟨false, rfl, (fun h => by cases h), EF⟩
  have hr := HR.out (by trivial)
  go_wp2_with fail
  go_ret
  refine ⟨true, rfl, fun _ => HQ.out.mp ?_, EF⟩
  simp [hr, empty_size]

set_option maxHeartbeats 2000000 in
set_option maxRecDepth 100000 in
theorem known5_any (w : World) (n1 n2 n3 : Int) (ty ck tx id : ByteArray) (cr fl : Bool) (a b : Option Addr) (kn inn c d : Nat) :
    Calls Tryz.prog 24 #[.agg #[.int .i64 5, .string ty, .bool cr, .bool fl, .int .i64 n1, .int .i64 n2, .int .i64 n3, .string ck, .string tx, .string id, .slice a kn c, .slice b inn d]] w (YesIfE (kn = 0 ∧ inn = 0 ∧ (5 = 5 ∧ ty = ⟨#[]⟩ ∧ cr = cr ∧ fl = false ∧ n1 = 0 ∧ n2 = 0 ∧ n3 = 0 ∧ ck = ⟨#[]⟩ ∧ tx = ⟨#[]⟩ ∧ id = ⟨#[]⟩) ∧ 0 ≤ n1 ∧ n1 < 2147483648 ∧ tx.size ≤ 40 ∧ ck.size ≤ 40) w) := by
  obtain ⟨Q, hQ⟩ : ∃ Q : Prop, Hid (Q = (kn = 0 ∧ inn = 0 ∧ (5 = 5 ∧ ty = ⟨#[]⟩ ∧ cr = cr ∧ fl = false ∧ n1 = 0 ∧ n2 = 0 ∧ n3 = 0 ∧ ck = ⟨#[]⟩ ∧ tx = ⟨#[]⟩ ∧ id = ⟨#[]⟩) ∧ 0 ≤ n1 ∧ n1 < 2147483648 ∧ tx.size ≤ 40 ∧ ck.size ≤ 40)) ∧ True := ⟨_, Lib.hid rfl, trivial⟩
  have HQ : Hid ((kn = 0 ∧ inn = 0 ∧ (5 = 5 ∧ ty = ⟨#[]⟩ ∧ cr = cr ∧ fl = false ∧ n1 = 0 ∧ n2 = 0 ∧ n3 = 0 ∧ ck = ⟨#[]⟩ ∧ tx = ⟨#[]⟩ ∧ id = ⟨#[]⟩) ∧ 0 ≤ n1 ∧ n1 < 2147483648 ∧ tx.size ≤ 40 ∧ ck.size ≤ 40) = Q) := Lib.hid hQ.1.out.symm
  rw [HQ.out]
  clear hQ
  by_cases hkn : kn = 0
  case neg =>
    have hki : ¬ (kn : Int) = 0 := by omega
    have E2 := (two_new w (.cells #[.int .i64 5, .string ty, .bool cr, .bool fl, .int .i64 n1, .int .i64 n2, .int .i64 n3, .string ck, .string tx, .string id, .slice a kn c, .slice b inn d] 65 (0, 0)) (.cells #[.int .i64 5, .string ⟨#[]⟩, .bool cr, .bool false, .int .i64 0, .int .i64 0, .int .i64 0, .string ⟨#[]⟩, .string ⟨#[]⟩, .string ⟨#[]⟩, .slice none 0 0, .slice none 0 0] 65 (0, 0))).2.2
    go_enter Tryz.func24, Tryz.ntmps24
    go_wp2_with fail
    go_ret
    exact ⟨false, rfl, (fun h => by cases h), E2⟩
  subst hkn
  by_cases hin : inn = 0
  case neg =>
    have hki : ¬ (inn : Int) = 0 := by omega
    have E2 := (two_new w (.cells #[.int .i64 5, .string ty, .bool cr, .bool fl, .int .i64 n1, .int .i64 n2, .int .i64 n3, .string ck, .string tx, .string id, .slice a 0 c, .slice b inn d] 65 (0, 0)) (.cells #[.int .i64 5, .string ⟨#[]⟩, .bool cr, .bool false, .int .i64 0, .int .i64 0, .int .i64 0, .string ⟨#[]⟩, .string ⟨#[]⟩, .string ⟨#[]⟩, .slice none 0 0, .slice none 0 0] 65 (0, 0))).2.2
    go_enter Tryz.func24, Tryz.ntmps24
    go_wp2_with fail
    go_ret
    exact ⟨false, rfl, (fun h => by cases h), E2⟩
  subst hin
  have h4 := three_new w (.cells #[.int .i64 5, .string ty, .bool cr, .bool fl, .int .i64 n1, .int .i64 n2, .int .i64 n3, .string ck, .string tx, .string id, .slice a 0 c, .slice b 0 d] 65 (0, 0)) (.cells #[.int .i64 5, .string ⟨#[]⟩, .bool cr, .bool false, .int .i64 0, .int .i64 0, .int .i64 0, .string ⟨#[]⟩, .string ⟨#[]⟩, .string ⟨#[]⟩, .slice none 0 0, .slice none 0 0] 65 (0, 0)) (.cells #[.int .i64 5, .string ty, .bool cr, .bool fl, .int .i64 n1, .int .i64 n2, .int .i64 n3, .string ck, .string tx, .string id, .slice a 0 c, .slice b 0 d] 65 (0, 0)) (.cells #[.int .i64 5, .string ⟨#[]⟩, .bool cr, .bool false, .int .i64 0, .int .i64 0, .int .i64 0, .string ⟨#[]⟩, .string ⟨#[]⟩, .string ⟨#[]⟩, .slice none 0 0, .slice none 0 0] 65 (0, 0))
  have h5 : ((((w.alloc (.cells #[.int .i64 5, .string ty, .bool cr, .bool fl, .int .i64 n1, .int .i64 n2, .int .i64 n3, .string ck, .string tx, .string id, .slice a 0 c, .slice b 0 d] 65 (0, 0))).alloc (.cells #[.int .i64 5, .string ⟨#[]⟩, .bool cr, .bool false, .int .i64 0, .int .i64 0, .int .i64 0, .string ⟨#[]⟩, .string ⟨#[]⟩, .string ⟨#[]⟩, .slice none 0 0, .slice none 0 0] 65 (0, 0))).alloc (.cells #[.int .i64 5, .string ty, .bool cr, .bool fl, .int .i64 n1, .int .i64 n2, .int .i64 n3, .string ck, .string tx, .string id, .slice a 0 c, .slice b 0 d] 65 (0, 0))).alloc (.cells #[.int .i64 5, .string ⟨#[]⟩, .bool cr, .bool false, .int .i64 0, .int .i64 0, .int .i64 0, .string ⟨#[]⟩, .string ⟨#[]⟩, .string ⟨#[]⟩, .slice none 0 0, .slice none 0 0] 65 (0, 0))).heap[w.heap.size]? = some (.cells #[.int .i64 5, .string ty, .bool cr, .bool fl, .int .i64 n1, .int .i64 n2, .int .i64 n3, .string ck, .string tx, .string id, .slice a 0 c, .slice b 0 d] 65 (0, 0)) := heap_old (heap_old (heap_old (heap_new w _)))
  have H4 := Lib.hid h4
  have H5 := Lib.hid h5
  clear h4 h5
  go_enter Tryz.func24, Tryz.ntmps24
  go_wp2_with fail
  refine (ldapSame_one _ (w.heap.size + 1 + 1) (w.heap.size + 1 + 1 + 1) _ _ _ _ _ _ _ _ _ _ _ _ _ _ _ _ _ _ _ _ _ _ _ _ _ _ _ _ H4.out.2.1 H4.out.2.2.1).mono ?_
  rintro e w3 ⟨r, rfl, hr, E3⟩
  have cb := Lib.cell_of_heap (E3.get H5.out (fun h => h))
  have EF := H4.out.2.2.2.trans E3
  have HR := Lib.hid hr
  clear hr H4 H5
  cases r
  · go_wp2_with fail
    go_ret
    exact ⟨false, rfl, (fun h => by cases h), EF⟩
  have hr := HR.out (by trivial)
  go_wp2_with fail
  go_ret
  refine ⟨true, rfl, fun _ => HQ.out.mp ?_, EF⟩
  simp [hr, empty_size]

end Go.Proofs.YtocjfcgailkfjaaGreatDoor
end
