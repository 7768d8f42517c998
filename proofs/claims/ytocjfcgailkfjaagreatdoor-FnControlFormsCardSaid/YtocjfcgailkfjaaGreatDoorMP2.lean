/- ldapSame over two rows of one control, the same one. -/
import Derived.Test.YtocjfcgailkfjaaGreatDoorMJ7

set_option linter.unusedVariables false
set_option linter.unusedSimpArgs false
set_option linter.unusedSectionVars false

section
namespace Go.Proofs.YtocjfcgailkfjaaGreatDoor
open Go.RowKit

set_option maxHeartbeats 2000000 in
set_option maxRecDepth 100000 in
theorem equalFunc_eq (w : World) (g g2 : Nat) (k n1 : Int) (ty ck tx : ByteArray) (cr : Bool) (h1 : w.heap[g]? = some (.cells #[.int .i64 k, .string ty, .bool cr, .bool false, .int .i64 n1, .int .i64 0, .int .i64 0, .string ck, .string tx, .string ⟨#[]⟩, .slice none 0 0, .slice none 0 0] 65 (0, 0))) (h2 : w.heap[g2]? = some (.cells #[.int .i64 k, .string ty, .bool cr, .bool false, .int .i64 n1, .int .i64 0, .int .i64 0, .string ck, .string tx, .string ⟨#[]⟩, .slice none 0 0, .slice none 0 0] 65 (0, 0))) :
    Calls Tryz.prog 43 #[.slice (some ⟨g, 0, none⟩) 1 1, .slice (some ⟨g2, 0, none⟩) 1 1, .func (.func 44) #[] #[]] w fun e w' => e = .returned (.bool true) ∧ Ext none_ w w' := by
  have H1 := Lib.hid h1
  have H2 := Lib.hid h2
  clear h1 h2
  go_enter Tryz.func43, Tryz.ntmps43
  go_wp2_with fail
  go_loopw [7, 8, 9, 17] (fun _ _ _ v17 W => ∃ j : Nat, j ≤ 1 ∧ v17 = .int .i64 (j : Nat) ∧ Ext none_ w W) (fun _ _ _ v17 _ => 1 - (intOf v17).toNat)
  case atStart => exact ⟨0, by omega, rfl, Ext.refl _ _⟩
  case round =>
    obtain ⟨j, hj, rfl, hE⟩ := hrel
    have hj2 : j = 0 ∨ j = 1 := by omega
    rcases hj2 with rfl | rfl
    · have c1 := Lib.cell_of_heap (hE.get H1.out (fun h => h))
      have c2 := Lib.cell_of_heap (((Ext.refl none_ wr).alloc (.cells #[.int .i64 k, .string ty, .bool cr, .bool false, .int .i64 n1, .int .i64 0, .int .i64 0, .string ck, .string tx, .string ⟨#[]⟩, .slice none 0 0, .slice none 0 0] 65)).get (hE.get H2.out (fun h => h)) (fun h => h))
      go_wp2_with fail
      have E2 := ((Ext.refl none_ wr).alloc (.cells #[.int .i64 k, .string ty, .bool cr, .bool false, .int .i64 n1, .int .i64 0, .int .i64 0, .string ck, .string tx, .string ⟨#[]⟩, .slice none 0 0, .slice none 0 0] 65)).alloc (.cells #[.int .i64 k, .string ty, .bool cr, .bool false, .int .i64 n1, .int .i64 0, .int .i64 0, .string ck, .string tx, .string ⟨#[]⟩, .slice none 0 0, .slice none 0 0] 65)
      refine (same12 _ _ _ _ _ _ _ _ _ _ _ _ _ _ _ _ _ _ _).mono ?_
      rintro e w2 ⟨rfl, E3⟩
      clear c1 c2
      go_wp2_with fail
      go_roundw
      case rel => exact ⟨1, by omega, by go_num, (hE.trans E2).trans E3⟩
      case measure => simp [intOf]
    · go_wp2_with fail
      go_ret
      exact ⟨rfl, hE⟩

set_option maxHeartbeats 400000 in
set_option maxRecDepth 100000 in
theorem ldapSame_eq (w : World) (g g2 : Nat) (k n1 : Int) (ty ck tx : ByteArray) (cr : Bool) (h1 : w.heap[g]? = some (.cells #[.int .i64 k, .string ty, .bool cr, .bool false, .int .i64 n1, .int .i64 0, .int .i64 0, .string ck, .string tx, .string ⟨#[]⟩, .slice none 0 0, .slice none 0 0] 65 (0, 0))) (h2 : w.heap[g2]? = some (.cells #[.int .i64 k, .string ty, .bool cr, .bool false, .int .i64 n1, .int .i64 0, .int .i64 0, .string ck, .string tx, .string ⟨#[]⟩, .slice none 0 0, .slice none 0 0] 65 (0, 0))) :
    Calls Tryz.prog 16 #[.slice (some ⟨g, 0, none⟩) 1 1, .slice (some ⟨g2, 0, none⟩) 1 1] w fun e w' => e = .returned (.bool true) ∧ Ext none_ w w' := by
  have H := Lib.hid (equalFunc_eq w g g2 k n1 ty ck tx cr h1 h2)
  clear h1 h2
  go_enter Tryz.func16, Tryz.ntmps16
  go_wp2_with fail
  refine H.out.mono ?_
  rintro e w1 ⟨rfl, E⟩
  go_wp2_with fail
  go_ret
  exact ⟨rfl, E⟩

end Go.Proofs.YtocjfcgailkfjaaGreatDoor
end
