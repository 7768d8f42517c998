/- ldapSame over two controls that need not be the same. ldapSame over two rows of one control. -/
import Derived.Test.YtocjfcgailkfjaaGreatDoorMJ7
import Derived.Test.YtocjfcgailkfjaaGreatDoorMH1

set_option linter.unusedVariables false
set_option linter.unusedSimpArgs false
set_option linter.unusedSectionVars false

section
namespace Go.Proofs.YtocjfcgailkfjaaGreatDoor
open Go.RowKit

theorem str_ne {s t : ByteArray} (h : ¬ s = t) : (s.toList == t.toList) = false := by
  rw [ByteArray.toList_eq, ByteArray.toList_eq]
  simp only [beq_eq_false_iff_ne, ne_eq]
  intro e
  exact h (ByteArray.ext (Array.toList_inj.1 e))

set_option maxHeartbeats 4000000 in
set_option maxRecDepth 100000 in
theorem same_gen (w : World) (k n1 n2 n3 k' n1' n2' n3' : Int) (ty ck tx id ty' ck' tx' id' : ByteArray) (cr fl cr' fl' : Bool) (a b a' b' : Option Addr) (c d c' d' : Nat) :
    Calls Tryz.prog 44 #[.agg #[.int .i64 k, .string ty, .bool cr, .bool fl, .int .i64 n1, .int .i64 n2, .int .i64 n3, .string ck, .string tx, .string id, .slice a 0 c, .slice b 0 d],
      .agg #[.int .i64 k', .string ty', .bool cr', .bool fl', .int .i64 n1', .int .i64 n2', .int .i64 n3', .string ck', .string tx', .string id', .slice a' 0 c', .slice b' 0 d']] w (YesIfE (k = k' ∧ ty = ty' ∧ cr = cr' ∧ fl = fl' ∧ n1 = n1' ∧ n2 = n2' ∧ n3 = n3' ∧ ck = ck' ∧ tx = tx' ∧ id = id') w) := by
  by_cases e_k : k = k'
  case neg =>
    go_enter Tryz.func44, Tryz.ntmps44
    go_wp2_with fail
    go_ret
    exact ⟨false, rfl, (fun h => by cases h), ((Ext.refl none_ w).alloc _).alloc _⟩
  subst e_k
  by_cases e_ty : ty = ty'
  case neg =>
    have hne := str_ne e_ty
    go_enter Tryz.func44, Tryz.ntmps44
    go_wp2_with fail
    go_ret
    exact ⟨false, rfl, (fun h => by cases h), ((Ext.refl none_ w).alloc _).alloc _⟩
  subst e_ty
  by_cases e_cr : cr = cr'
  case neg =>
    have hne : (cr == cr') = false := by simpa using e_cr
    go_enter Tryz.func44, Tryz.ntmps44
    go_wp2_with fail
    go_ret
    exact ⟨false, rfl, (fun h => by cases h), ((Ext.refl none_ w).alloc _).alloc _⟩
  subst e_cr
  by_cases e_fl : fl = fl'
  case neg =>
    have hne : (fl == fl') = false := by simpa using e_fl
    go_enter Tryz.func44, Tryz.ntmps44
    go_wp2_with fail
    go_ret
    exact ⟨false, rfl, (fun h => by cases h), ((Ext.refl none_ w).alloc _).alloc _⟩
  subst e_fl
  by_cases e_n1 : n1 = n1'
  case neg =>
    go_enter Tryz.func44, Tryz.ntmps44
    go_wp2_with fail
    go_ret
    exact ⟨false, rfl, (fun h => by cases h), ((Ext.refl none_ w).alloc _).alloc _⟩
  subst e_n1
  by_cases e_n2 : n2 = n2'
  case neg =>
    go_enter Tryz.func44, Tryz.ntmps44
    go_wp2_with fail
    go_ret
    exact ⟨false, rfl, (fun h => by cases h), ((Ext.refl none_ w).alloc _).alloc _⟩
  subst e_n2
  by_cases e_n3 : n3 = n3'
  case neg =>
    go_enter Tryz.func44, Tryz.ntmps44
    go_wp2_with fail
    go_ret
    exact ⟨false, rfl, (fun h => by cases h), ((Ext.refl none_ w).alloc _).alloc _⟩
  subst e_n3
  by_cases e_ck : ck = ck'
  case neg =>
    have hne := str_ne e_ck
    go_enter Tryz.func44, Tryz.ntmps44
    go_wp2_with fail
    go_ret
    exact ⟨false, rfl, (fun h => by cases h), ((Ext.refl none_ w).alloc _).alloc _⟩
  subst e_ck
  by_cases e_tx : tx = tx'
  case neg =>
    have hne := str_ne e_tx
    go_enter Tryz.func44, Tryz.ntmps44
    go_wp2_with fail
    go_ret
    exact ⟨false, rfl, (fun h => by cases h), ((Ext.refl none_ w).alloc _).alloc _⟩
  subst e_tx
  by_cases e_id : id = id'
  case neg =>
    have hne := str_ne e_id
    go_enter Tryz.func44, Tryz.ntmps44
    go_wp2_with fail
    go_ret
    exact ⟨false, rfl, (fun h => by cases h), ((Ext.refl none_ w).alloc _).alloc _⟩
  subst e_id
  refine (same12 w k n1 n2 n3 ty ck tx id cr fl a b a' b' c d c' d').mono ?_
  rintro e w1 ⟨rfl, E⟩
  exact ⟨true, rfl, fun _ => ⟨rfl, rfl, rfl, rfl, rfl, rfl, rfl, rfl, rfl, rfl⟩, E⟩

end Go.Proofs.YtocjfcgailkfjaaGreatDoor
end

section
namespace Go.Proofs.YtocjfcgailkfjaaGreatDoor
open Go.RowKit

set_option maxHeartbeats 2000000 in
set_option maxRecDepth 100000 in
theorem equalFunc_one (w : World) (g g2 : Nat) (k n1 n2 n3 k' n1' n2' n3' : Int) (ty ck tx id ty' ck' tx' id' : ByteArray) (cr fl cr' fl' : Bool) (a b a' b' : Option Addr) (c d c' d' : Nat) (h1 : w.heap[g]? = some (.cells #[.int .i64 k, .string ty, .bool cr, .bool fl, .int .i64 n1, .int .i64 n2, .int .i64 n3, .string ck, .string tx, .string id, .slice a 0 c, .slice b 0 d] 65 (0, 0))) (h2 : w.heap[g2]? = some (.cells #[.int .i64 k', .string ty', .bool cr', .bool fl', .int .i64 n1', .int .i64 n2', .int .i64 n3', .string ck', .string tx', .string id', .slice a' 0 c', .slice b' 0 d'] 65 (0, 0))) :
    Calls Tryz.prog 43 #[.slice (some ⟨g, 0, none⟩) 1 1, .slice (some ⟨g2, 0, none⟩) 1 1, .func (.func 44) #[] #[]] w (YesIfE (k = k' ∧ ty = ty' ∧ cr = cr' ∧ fl = fl' ∧ n1 = n1' ∧ n2 = n2' ∧ n3 = n3' ∧ ck = ck' ∧ tx = tx' ∧ id = id') w) := by
  have H1 := Lib.hid h1
  have H2 := Lib.hid h2
  obtain ⟨Q, hQ⟩ : ∃ Q : Prop, Q = (k = k' ∧ ty = ty' ∧ cr = cr' ∧ fl = fl' ∧ n1 = n1' ∧ n2 = n2' ∧ n3 = n3' ∧ ck = ck' ∧ tx = tx' ∧ id = id') := ⟨_, rfl⟩
  rw [← hQ]
  have HSAME := Lib.hid (show ∀ W, Calls Tryz.prog 44 #[.agg #[.int .i64 k, .string ty, .bool cr, .bool fl, .int .i64 n1, .int .i64 n2, .int .i64 n3, .string ck, .string tx, .string id, .slice a 0 c, .slice b 0 d], .agg #[.int .i64 k', .string ty', .bool cr', .bool fl', .int .i64 n1', .int .i64 n2', .int .i64 n3', .string ck', .string tx', .string id', .slice a' 0 c', .slice b' 0 d']] W (YesIfE Q W) from fun W => hQ ▸ same_gen W k n1 n2 n3 k' n1' n2' n3' ty ck tx id ty' ck' tx' id' cr fl cr' fl' a b a' b' c d c' d')
  clear h1 h2 hQ
  go_enter Tryz.func43, Tryz.ntmps43
  go_wp2_with fail
  go_loopw [7, 8, 9, 17] (fun _ _ _ v17 W => ∃ j : Nat, j ≤ 1 ∧ v17 = .int .i64 (j : Nat) ∧ Hid (j = 1 → Q) ∧ Ext none_ w W) (fun _ _ _ v17 _ => 1 - (intOf v17).toNat)
  case atStart => exact ⟨0, by omega, rfl, Lib.hid (fun h => by omega), Ext.refl _ _⟩
  case round =>
    obtain ⟨j, hj, rfl, HQ, hE⟩ := hrel
    have hj2 : j = 0 ∨ j = 1 := by omega
    rcases hj2 with rfl | rfl
    · have c1 := Lib.cell_of_heap (hE.get H1.out (fun h => h))
      have c2 := Lib.cell_of_heap (((Ext.refl none_ wr).alloc (.cells #[.int .i64 k, .string ty, .bool cr, .bool fl, .int .i64 n1, .int .i64 n2, .int .i64 n3, .string ck, .string tx, .string id, .slice a 0 c, .slice b 0 d] 65)).get (hE.get H2.out (fun h => h)) (fun h => h))
      go_wp2_with fail
      have E2 := ((Ext.refl none_ wr).alloc (.cells #[.int .i64 k, .string ty, .bool cr, .bool fl, .int .i64 n1, .int .i64 n2, .int .i64 n3, .string ck, .string tx, .string id, .slice a 0 c, .slice b 0 d] 65)).alloc (.cells #[.int .i64 k', .string ty', .bool cr', .bool fl', .int .i64 n1', .int .i64 n2', .int .i64 n3', .string ck', .string tx', .string id', .slice a' 0 c', .slice b' 0 d'] 65)
      refine (HSAME.out _).mono ?_
      rintro e w2 ⟨r, rfl, hr, E3⟩
      have HR := Lib.hid hr
      clear c1 c2 hr
      cases r
      · go_wp2_with fail
        go_ret
        exact ⟨false, rfl, (fun h => by cases h), (hE.trans E2).trans E3⟩
      · go_wp2_with fail
        go_roundw
        case rel => exact ⟨1, by omega, by go_num, Lib.hid (fun _ => HR.out (by trivial)), (hE.trans E2).trans E3⟩
        case measure => simp [intOf]
    · go_wp2_with fail
      go_ret
      exact ⟨true, rfl, fun _ => HQ.out (by trivial), hE⟩

set_option maxHeartbeats 400000 in
set_option maxRecDepth 100000 in
theorem ldapSame_one (w : World) (g g2 : Nat) (k n1 n2 n3 k' n1' n2' n3' : Int) (ty ck tx id ty' ck' tx' id' : ByteArray) (cr fl cr' fl' : Bool) (a b a' b' : Option Addr) (c d c' d' : Nat) (h1 : w.heap[g]? = some (.cells #[.int .i64 k, .string ty, .bool cr, .bool fl, .int .i64 n1, .int .i64 n2, .int .i64 n3, .string ck, .string tx, .string id, .slice a 0 c, .slice b 0 d] 65 (0, 0))) (h2 : w.heap[g2]? = some (.cells #[.int .i64 k', .string ty', .bool cr', .bool fl', .int .i64 n1', .int .i64 n2', .int .i64 n3', .string ck', .string tx', .string id', .slice a' 0 c', .slice b' 0 d'] 65 (0, 0))) :
    Calls Tryz.prog 16 #[.slice (some ⟨g, 0, none⟩) 1 1, .slice (some ⟨g2, 0, none⟩) 1 1] w (YesIfE (k = k' ∧ ty = ty' ∧ cr = cr' ∧ fl = fl' ∧ n1 = n1' ∧ n2 = n2' ∧ n3 = n3' ∧ ck = ck' ∧ tx = tx' ∧ id = id') w) := by
  obtain ⟨Q, hQ⟩ : ∃ Q : Prop, Q = (k = k' ∧ ty = ty' ∧ cr = cr' ∧ fl = fl' ∧ n1 = n1' ∧ n2 = n2' ∧ n3 = n3' ∧ ck = ck' ∧ tx = tx' ∧ id = id') := ⟨_, rfl⟩
  rw [← hQ]
  have H := Lib.hid (show Calls Tryz.prog 43 #[.slice (some ⟨g, 0, none⟩) 1 1, .slice (some ⟨g2, 0, none⟩) 1 1, .func (.func 44) #[] #[]] w (YesIfE Q w) from hQ ▸ equalFunc_one w g g2 k n1 n2 n3 k' n1' n2' n3' ty ck tx id ty' ck' tx' id' cr fl cr' fl' a b a' b' c d c' d' h1 h2)
  clear h1 h2 hQ
  go_enter Tryz.func16, Tryz.ntmps16
  go_wp2_with fail
  refine H.out.mono ?_
  rintro e w1 ⟨r, rfl, hr, E⟩
  have HR := Lib.hid hr
  clear hr
  go_wp2_with fail
  go_ret
  exact ⟨r, rfl, HR.out, E⟩

end Go.Proofs.YtocjfcgailkfjaaGreatDoor
end
