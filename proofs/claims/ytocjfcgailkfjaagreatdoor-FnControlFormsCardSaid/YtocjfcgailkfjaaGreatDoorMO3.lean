/- backControl of the known kinds but 0. -/
import Derived.Test.YtocjfcgailkfjaaGreatDoorMO1
import Derived.Test.YtocjfcgailkfjaaGreatDoorMJ2
import Derived.Test.YtocjfcgailkfjaaGreatDoorMF

set_option linter.unusedVariables false
set_option linter.unusedSimpArgs false
set_option linter.unusedSectionVars false

section
namespace Go.Proofs.YtocjfcgailkfjaaGreatDoor
open Go.RowKit

theorem type_method163 (a : Addr) (w : World) : (method 540 163 (.pointer (some a)) "GetControlType").run Tryz.prog w = .ok (223, .pointer (some a)) w := by kernel_rfl
theorem type_ahead163 (a : Addr) (w : World) : (nilAhead 540 163 (.pointer (some a)) "GetControlType").run Tryz.prog w = .ok (some false) w := by kernel_rfl
theorem as163_203 (v : Value) (w : World) : (Instr.typeAssert (.iface 163 v) 128 203 true).run Tryz.prog w = .ok (.tuple #[.pointer none, .bool false]) w := by kernel_rfl
theorem as163_151 (v : Value) (w : World) : (Instr.typeAssert (.iface 163 v) 128 151 true).run Tryz.prog w = .ok (.tuple #[.pointer none, .bool false]) w := by kernel_rfl
theorem as163_155 (v : Value) (w : World) : (Instr.typeAssert (.iface 163 v) 128 155 true).run Tryz.prog w = .ok (.tuple #[.pointer none, .bool false]) w := by kernel_rfl
theorem as163_157 (v : Value) (w : World) : (Instr.typeAssert (.iface 163 v) 128 157 true).run Tryz.prog w = .ok (.tuple #[.pointer none, .bool false]) w := by kernel_rfl
theorem as163_160 (v : Value) (w : World) : (Instr.typeAssert (.iface 163 v) 128 160 true).run Tryz.prog w = .ok (.tuple #[.pointer none, .bool false]) w := by kernel_rfl
theorem as163_163 (v : Value) (w : World) : (Instr.typeAssert (.iface 163 v) 128 163 true).run Tryz.prog w = .ok (.tuple #[v, .bool true]) w := by kernel_rfl

set_option maxHeartbeats 400000 in
set_option maxRecDepth 100000 in
theorem getType163_any (w : World) (g : Nat) : Calls Tryz.prog 223 #[.pointer (some ⟨g, 0, none⟩)] w fun e w' => e = .returned (.string (strOf kd5)) ∧ w = w' := by
  go_enter Tryz.func223, Tryz.ntmps223
  go_wp2_with fail
  go_ret
  exact ⟨rfl, rfl⟩

set_option maxHeartbeats 2000000 in
set_option maxRecDepth 100000 in
theorem back5_any (w : World) (g : Nat) (crit : Bool)  (h : w.heap[g]? = some (.cells #[.bool crit] 261 (0, 0))) :
    Calls Tryz.prog 56 #[.iface 163 (.pointer (some ⟨g, 0, none⟩))] w fun e w' => e = .returned (.agg #[.int .i64 5, .string (strOf kd5), .bool crit, .bool false, .int .i64 0, .int .i64 0, .int .i64 0, .string ⟨#[]⟩, .string ⟨#[]⟩, .string ⟨#[]⟩, .slice none 0 0, .slice none 0 0]) ∧ Ext none_ w w' := by
  have hm := type_method163
  have ha := type_ahead163
  have t203 := as163_203
  have t151 := as163_151
  have t155 := as163_155
  have t157 := as163_157
  have t160 := as163_160
  have t163 := as163_163
  have H := Lib.hid h
  clear h
  go_enter Tryz.func56, Tryz.ntmps56
  go_wp2_with fail
  have E1 := (Ext.refl none_ w).alloc (.cells #[.int .i64 0, .string ⟨#[]⟩, .bool false, .bool false, .int .i64 0, .int .i64 0, .int .i64 0, .string ⟨#[]⟩, .string ⟨#[]⟩, .string ⟨#[]⟩, .slice none 0 0, .slice none 0 0] 65)
  refine (getType163_any _ g).mono ?_
  rintro e w1 ⟨rfl, rfl⟩
  clear hm ha
  go_wp2_with fail
  have h2 := two_new w (.cells #[.int .i64 0, .string ⟨#[]⟩, .bool false, .bool false, .int .i64 0, .int .i64 0, .int .i64 0, .string ⟨#[]⟩, .string ⟨#[]⟩, .string ⟨#[]⟩, .slice none 0 0, .slice none 0 0] 65 (0, 0)) (.cells #[.int .i64 (-1), .string (strOf kd5), .bool false, .bool false, .int .i64 0, .int .i64 0, .int .i64 0, .string ⟨#[]⟩, .string ⟨#[]⟩, .string ⟨#[]⟩, .slice none 0 0, .slice none 0 0] 65 (0, 0))
  refine cutW (fun W => W.heap[w.heap.size]? = some (.cells #[.int .i64 0, .string ⟨#[]⟩, .bool false, .bool false, .int .i64 0, .int .i64 0, .int .i64 0, .string ⟨#[]⟩, .string ⟨#[]⟩, .string ⟨#[]⟩, .slice none 0 0, .slice none 0 0] 65 (0, 0)) ∧ W.heap[w.heap.size + 1]? = some (.cells #[.int .i64 (-1), .string (strOf kd5), .bool false, .bool false, .int .i64 0, .int .i64 0, .int .i64 0, .string ⟨#[]⟩, .string ⟨#[]⟩, .string ⟨#[]⟩, .slice none 0 0, .slice none 0 0] 65 (0, 0)) ∧ Ext none_ w W) h2 ?_
  clear h2 E1 t203 t151 t155 t157 t160 t163
  rintro W ⟨k0, k1, E1⟩
  have c0 := Lib.cell_of_heap k0
  have c1 := Lib.cell_of_heap k1
  have f1 := Lib.frozen_of_heap k1
  have f0 := Lib.frozen_of_heap k0
  have hg := E1.get H.out (fun h => h)
  have hgl := lt_of_block H.out
  have c2 := Lib.cell_of_heap hg
  have hne : ¬ g = w.heap.size + 1 := by omega
  clear hg
  go_region
  go_wp2_with fail
  clear c0 c1 f1 f0 c2
  have kA : ((W.setCell ⟨w.heap.size + 1, 0, none⟩ (.int .i64 5)).setCell ⟨w.heap.size + 1, 2, none⟩ (.bool crit)).heap[w.heap.size]? = _ := (heap_set_ne (heap_set_ne k0 (by omega)) (by omega))
  have K := heap_set (heap_set (heap_set (heap_set (heap_set (heap_set (heap_set (heap_set (heap_set (heap_set (heap_set (heap_set kA (i := 0) (.int .i64 5)) (i := 1) (.string (strOf kd5))) (i := 2) (.bool crit)) (i := 3) (.bool false)) (i := 4) (.int .i64 0)) (i := 5) (.int .i64 0)) (i := 6) (.int .i64 0)) (i := 7) (.string ⟨#[]⟩)) (i := 8) (.string ⟨#[]⟩)) (i := 9) (.string ⟨#[]⟩)) (i := 10) (.slice none 0 0)) (i := 11) (.slice none 0 0)
  have ck' := Lib.cell_of_heap K
  refine bodyPost_ret (v := .agg #[.int .i64 5, .string (strOf kd5), .bool crit, .bool false, .int .i64 0, .int .i64 0, .int .i64 0, .string ⟨#[]⟩, .string ⟨#[]⟩, .string ⟨#[]⟩, .slice none 0 0, .slice none 0 0]) (by simp [results, Tryz.results56, go_sem, ck']) rfl ⟨rfl, ?_⟩
  refine Ext.drew ?_
  repeat refine Ext.setAt ?_ (.inl (by omega)) _
  exact E1

theorem type_method170 (a : Addr) (w : World) : (method 540 170 (.pointer (some a)) "GetControlType").run Tryz.prog w = .ok (230, .pointer (some a)) w := by kernel_rfl
theorem type_ahead170 (a : Addr) (w : World) : (nilAhead 540 170 (.pointer (some a)) "GetControlType").run Tryz.prog w = .ok (some false) w := by kernel_rfl
theorem as170_203 (v : Value) (w : World) : (Instr.typeAssert (.iface 170 v) 128 203 true).run Tryz.prog w = .ok (.tuple #[.pointer none, .bool false]) w := by kernel_rfl
theorem as170_151 (v : Value) (w : World) : (Instr.typeAssert (.iface 170 v) 128 151 true).run Tryz.prog w = .ok (.tuple #[.pointer none, .bool false]) w := by kernel_rfl
theorem as170_155 (v : Value) (w : World) : (Instr.typeAssert (.iface 170 v) 128 155 true).run Tryz.prog w = .ok (.tuple #[.pointer none, .bool false]) w := by kernel_rfl
theorem as170_157 (v : Value) (w : World) : (Instr.typeAssert (.iface 170 v) 128 157 true).run Tryz.prog w = .ok (.tuple #[.pointer none, .bool false]) w := by kernel_rfl
theorem as170_160 (v : Value) (w : World) : (Instr.typeAssert (.iface 170 v) 128 160 true).run Tryz.prog w = .ok (.tuple #[.pointer none, .bool false]) w := by kernel_rfl
theorem as170_163 (v : Value) (w : World) : (Instr.typeAssert (.iface 170 v) 128 163 true).run Tryz.prog w = .ok (.tuple #[.pointer none, .bool false]) w := by kernel_rfl
theorem as170_165 (v : Value) (w : World) : (Instr.typeAssert (.iface 170 v) 128 165 true).run Tryz.prog w = .ok (.tuple #[.pointer none, .bool false]) w := by kernel_rfl
theorem as170_167 (v : Value) (w : World) : (Instr.typeAssert (.iface 170 v) 128 167 true).run Tryz.prog w = .ok (.tuple #[.pointer none, .bool false]) w := by kernel_rfl
theorem as170_170 (v : Value) (w : World) : (Instr.typeAssert (.iface 170 v) 128 170 true).run Tryz.prog w = .ok (.tuple #[v, .bool true]) w := by kernel_rfl

set_option maxHeartbeats 400000 in
set_option maxRecDepth 100000 in
theorem getType170_any (w : World) (g : Nat) : Calls Tryz.prog 230 #[.pointer (some ⟨g, 0, none⟩)] w fun e w' => e = .returned (.string (strOf kd8)) ∧ w = w' := by
  go_enter Tryz.func230, Tryz.ntmps230
  go_wp2_with fail
  go_ret
  exact ⟨rfl, rfl⟩

set_option maxHeartbeats 2000000 in
set_option maxRecDepth 100000 in
theorem back8_any (w : World) (g : Nat)  :
    Calls Tryz.prog 56 #[.iface 170 (.pointer (some ⟨g, 0, none⟩))] w fun e w' => e = .returned (.agg #[.int .i64 8, .string (strOf kd8), .bool false, .bool false, .int .i64 0, .int .i64 0, .int .i64 0, .string ⟨#[]⟩, .string ⟨#[]⟩, .string ⟨#[]⟩, .slice none 0 0, .slice none 0 0]) ∧ Ext none_ w w' := by
  have hm := type_method170
  have ha := type_ahead170
  have t203 := as170_203
  have t151 := as170_151
  have t155 := as170_155
  have t157 := as170_157
  have t160 := as170_160
  have t163 := as170_163
  have t165 := as170_165
  have t167 := as170_167
  have t170 := as170_170
  go_enter Tryz.func56, Tryz.ntmps56
  go_wp2_with fail
  have E1 := (Ext.refl none_ w).alloc (.cells #[.int .i64 0, .string ⟨#[]⟩, .bool false, .bool false, .int .i64 0, .int .i64 0, .int .i64 0, .string ⟨#[]⟩, .string ⟨#[]⟩, .string ⟨#[]⟩, .slice none 0 0, .slice none 0 0] 65)
  refine (getType170_any _ g).mono ?_
  rintro e w1 ⟨rfl, rfl⟩
  clear hm ha
  go_wp2_with fail
  have h2 := two_new w (.cells #[.int .i64 8, .string (strOf kd8), .bool false, .bool false, .int .i64 0, .int .i64 0, .int .i64 0, .string ⟨#[]⟩, .string ⟨#[]⟩, .string ⟨#[]⟩, .slice none 0 0, .slice none 0 0] 65 (0, 0)) (.cells #[.int .i64 8, .string (strOf kd8), .bool false, .bool false, .int .i64 0, .int .i64 0, .int .i64 0, .string ⟨#[]⟩, .string ⟨#[]⟩, .string ⟨#[]⟩, .slice none 0 0, .slice none 0 0] 65 (0, 0))
  have ck' := Lib.cell_of_heap h2.1
  refine bodyPost_ret (v := .agg #[.int .i64 8, .string (strOf kd8), .bool false, .bool false, .int .i64 0, .int .i64 0, .int .i64 0, .string ⟨#[]⟩, .string ⟨#[]⟩, .string ⟨#[]⟩, .slice none 0 0, .slice none 0 0]) (by simp [results, Tryz.results56, go_sem, ck']) rfl ⟨rfl, h2.2.2⟩

theorem type_method172 (a : Addr) (w : World) : (method 540 172 (.pointer (some a)) "GetControlType").run Tryz.prog w = .ok (232, .pointer (some a)) w := by kernel_rfl
theorem type_ahead172 (a : Addr) (w : World) : (nilAhead 540 172 (.pointer (some a)) "GetControlType").run Tryz.prog w = .ok (some false) w := by kernel_rfl
theorem as172_203 (v : Value) (w : World) : (Instr.typeAssert (.iface 172 v) 128 203 true).run Tryz.prog w = .ok (.tuple #[.pointer none, .bool false]) w := by kernel_rfl
theorem as172_151 (v : Value) (w : World) : (Instr.typeAssert (.iface 172 v) 128 151 true).run Tryz.prog w = .ok (.tuple #[.pointer none, .bool false]) w := by kernel_rfl
theorem as172_155 (v : Value) (w : World) : (Instr.typeAssert (.iface 172 v) 128 155 true).run Tryz.prog w = .ok (.tuple #[.pointer none, .bool false]) w := by kernel_rfl
theorem as172_157 (v : Value) (w : World) : (Instr.typeAssert (.iface 172 v) 128 157 true).run Tryz.prog w = .ok (.tuple #[.pointer none, .bool false]) w := by kernel_rfl
theorem as172_160 (v : Value) (w : World) : (Instr.typeAssert (.iface 172 v) 128 160 true).run Tryz.prog w = .ok (.tuple #[.pointer none, .bool false]) w := by kernel_rfl
theorem as172_163 (v : Value) (w : World) : (Instr.typeAssert (.iface 172 v) 128 163 true).run Tryz.prog w = .ok (.tuple #[.pointer none, .bool false]) w := by kernel_rfl
theorem as172_165 (v : Value) (w : World) : (Instr.typeAssert (.iface 172 v) 128 165 true).run Tryz.prog w = .ok (.tuple #[.pointer none, .bool false]) w := by kernel_rfl
theorem as172_167 (v : Value) (w : World) : (Instr.typeAssert (.iface 172 v) 128 167 true).run Tryz.prog w = .ok (.tuple #[.pointer none, .bool false]) w := by kernel_rfl
theorem as172_170 (v : Value) (w : World) : (Instr.typeAssert (.iface 172 v) 128 170 true).run Tryz.prog w = .ok (.tuple #[.pointer none, .bool false]) w := by kernel_rfl
theorem as172_172 (v : Value) (w : World) : (Instr.typeAssert (.iface 172 v) 128 172 true).run Tryz.prog w = .ok (.tuple #[v, .bool true]) w := by kernel_rfl

set_option maxHeartbeats 400000 in
set_option maxRecDepth 100000 in
theorem getType172_any (w : World) (g : Nat) : Calls Tryz.prog 232 #[.pointer (some ⟨g, 0, none⟩)] w fun e w' => e = .returned (.string (strOf kd9)) ∧ w = w' := by
  go_enter Tryz.func232, Tryz.ntmps232
  go_wp2_with fail
  go_ret
  exact ⟨rfl, rfl⟩

set_option maxHeartbeats 2000000 in
set_option maxRecDepth 100000 in
theorem back9_any (w : World) (g : Nat)  :
    Calls Tryz.prog 56 #[.iface 172 (.pointer (some ⟨g, 0, none⟩))] w fun e w' => e = .returned (.agg #[.int .i64 9, .string (strOf kd9), .bool false, .bool false, .int .i64 0, .int .i64 0, .int .i64 0, .string ⟨#[]⟩, .string ⟨#[]⟩, .string ⟨#[]⟩, .slice none 0 0, .slice none 0 0]) ∧ Ext none_ w w' := by
  have hm := type_method172
  have ha := type_ahead172
  have t203 := as172_203
  have t151 := as172_151
  have t155 := as172_155
  have t157 := as172_157
  have t160 := as172_160
  have t163 := as172_163
  have t165 := as172_165
  have t167 := as172_167
  have t170 := as172_170
  have t172 := as172_172
  go_enter Tryz.func56, Tryz.ntmps56
  go_wp2_with fail
  have E1 := (Ext.refl none_ w).alloc (.cells #[.int .i64 0, .string ⟨#[]⟩, .bool false, .bool false, .int .i64 0, .int .i64 0, .int .i64 0, .string ⟨#[]⟩, .string ⟨#[]⟩, .string ⟨#[]⟩, .slice none 0 0, .slice none 0 0] 65)
  refine (getType172_any _ g).mono ?_
  rintro e w1 ⟨rfl, rfl⟩
  clear hm ha
  go_wp2_with fail
  have h2 := two_new w (.cells #[.int .i64 9, .string (strOf kd9), .bool false, .bool false, .int .i64 0, .int .i64 0, .int .i64 0, .string ⟨#[]⟩, .string ⟨#[]⟩, .string ⟨#[]⟩, .slice none 0 0, .slice none 0 0] 65 (0, 0)) (.cells #[.int .i64 9, .string (strOf kd9), .bool false, .bool false, .int .i64 0, .int .i64 0, .int .i64 0, .string ⟨#[]⟩, .string ⟨#[]⟩, .string ⟨#[]⟩, .slice none 0 0, .slice none 0 0] 65 (0, 0))
  have ck' := Lib.cell_of_heap h2.1
  refine bodyPost_ret (v := .agg #[.int .i64 9, .string (strOf kd9), .bool false, .bool false, .int .i64 0, .int .i64 0, .int .i64 0, .string ⟨#[]⟩, .string ⟨#[]⟩, .string ⟨#[]⟩, .slice none 0 0, .slice none 0 0]) (by simp [results, Tryz.results56, go_sem, ck']) rfl ⟨rfl, h2.2.2⟩

theorem type_method174 (a : Addr) (w : World) : (method 540 174 (.pointer (some a)) "GetControlType").run Tryz.prog w = .ok (234, .pointer (some a)) w := by kernel_rfl
theorem type_ahead174 (a : Addr) (w : World) : (nilAhead 540 174 (.pointer (some a)) "GetControlType").run Tryz.prog w = .ok (some false) w := by kernel_rfl
theorem as174_203 (v : Value) (w : World) : (Instr.typeAssert (.iface 174 v) 128 203 true).run Tryz.prog w = .ok (.tuple #[.pointer none, .bool false]) w := by kernel_rfl
theorem as174_151 (v : Value) (w : World) : (Instr.typeAssert (.iface 174 v) 128 151 true).run Tryz.prog w = .ok (.tuple #[.pointer none, .bool false]) w := by kernel_rfl
theorem as174_155 (v : Value) (w : World) : (Instr.typeAssert (.iface 174 v) 128 155 true).run Tryz.prog w = .ok (.tuple #[.pointer none, .bool false]) w := by kernel_rfl
theorem as174_157 (v : Value) (w : World) : (Instr.typeAssert (.iface 174 v) 128 157 true).run Tryz.prog w = .ok (.tuple #[.pointer none, .bool false]) w := by kernel_rfl
theorem as174_160 (v : Value) (w : World) : (Instr.typeAssert (.iface 174 v) 128 160 true).run Tryz.prog w = .ok (.tuple #[.pointer none, .bool false]) w := by kernel_rfl
theorem as174_163 (v : Value) (w : World) : (Instr.typeAssert (.iface 174 v) 128 163 true).run Tryz.prog w = .ok (.tuple #[.pointer none, .bool false]) w := by kernel_rfl
theorem as174_165 (v : Value) (w : World) : (Instr.typeAssert (.iface 174 v) 128 165 true).run Tryz.prog w = .ok (.tuple #[.pointer none, .bool false]) w := by kernel_rfl
theorem as174_167 (v : Value) (w : World) : (Instr.typeAssert (.iface 174 v) 128 167 true).run Tryz.prog w = .ok (.tuple #[.pointer none, .bool false]) w := by kernel_rfl
theorem as174_170 (v : Value) (w : World) : (Instr.typeAssert (.iface 174 v) 128 170 true).run Tryz.prog w = .ok (.tuple #[.pointer none, .bool false]) w := by kernel_rfl
theorem as174_172 (v : Value) (w : World) : (Instr.typeAssert (.iface 174 v) 128 172 true).run Tryz.prog w = .ok (.tuple #[.pointer none, .bool false]) w := by kernel_rfl
theorem as174_174 (v : Value) (w : World) : (Instr.typeAssert (.iface 174 v) 128 174 true).run Tryz.prog w = .ok (.tuple #[v, .bool true]) w := by kernel_rfl

set_option maxHeartbeats 400000 in
set_option maxRecDepth 100000 in
theorem getType174_any (w : World) (g : Nat) : Calls Tryz.prog 234 #[.pointer (some ⟨g, 0, none⟩)] w fun e w' => e = .returned (.string (strOf kd10)) ∧ w = w' := by
  go_enter Tryz.func234, Tryz.ntmps234
  go_wp2_with fail
  go_ret
  exact ⟨rfl, rfl⟩

set_option maxHeartbeats 2000000 in
set_option maxRecDepth 100000 in
theorem back10_any (w : World) (g : Nat)  :
    Calls Tryz.prog 56 #[.iface 174 (.pointer (some ⟨g, 0, none⟩))] w fun e w' => e = .returned (.agg #[.int .i64 10, .string (strOf kd10), .bool false, .bool false, .int .i64 0, .int .i64 0, .int .i64 0, .string ⟨#[]⟩, .string ⟨#[]⟩, .string ⟨#[]⟩, .slice none 0 0, .slice none 0 0]) ∧ Ext none_ w w' := by
  have hm := type_method174
  have ha := type_ahead174
  have t203 := as174_203
  have t151 := as174_151
  have t155 := as174_155
  have t157 := as174_157
  have t160 := as174_160
  have t163 := as174_163
  have t165 := as174_165
  have t167 := as174_167
  have t170 := as174_170
  have t172 := as174_172
  have t174 := as174_174
  go_enter Tryz.func56, Tryz.ntmps56
  go_wp2_with fail
  have E1 := (Ext.refl none_ w).alloc (.cells #[.int .i64 0, .string ⟨#[]⟩, .bool false, .bool false, .int .i64 0, .int .i64 0, .int .i64 0, .string ⟨#[]⟩, .string ⟨#[]⟩, .string ⟨#[]⟩, .slice none 0 0, .slice none 0 0] 65)
  refine (getType174_any _ g).mono ?_
  rintro e w1 ⟨rfl, rfl⟩
  clear hm ha
  go_wp2_with fail
  have h2 := two_new w (.cells #[.int .i64 10, .string (strOf kd10), .bool false, .bool false, .int .i64 0, .int .i64 0, .int .i64 0, .string ⟨#[]⟩, .string ⟨#[]⟩, .string ⟨#[]⟩, .slice none 0 0, .slice none 0 0] 65 (0, 0)) (.cells #[.int .i64 10, .string (strOf kd10), .bool false, .bool false, .int .i64 0, .int .i64 0, .int .i64 0, .string ⟨#[]⟩, .string ⟨#[]⟩, .string ⟨#[]⟩, .slice none 0 0, .slice none 0 0] 65 (0, 0))
  have ck' := Lib.cell_of_heap h2.1
  refine bodyPost_ret (v := .agg #[.int .i64 10, .string (strOf kd10), .bool false, .bool false, .int .i64 0, .int .i64 0, .int .i64 0, .string ⟨#[]⟩, .string ⟨#[]⟩, .string ⟨#[]⟩, .slice none 0 0, .slice none 0 0]) (by simp [results, Tryz.results56, go_sem, ck']) rfl ⟨rfl, h2.2.2⟩

theorem type_method151 (a : Addr) (w : World) : (method 540 151 (.pointer (some a)) "GetControlType").run Tryz.prog w = .ok (210, .pointer (some a)) w := by kernel_rfl
theorem type_ahead151 (a : Addr) (w : World) : (nilAhead 540 151 (.pointer (some a)) "GetControlType").run Tryz.prog w = .ok (some false) w := by kernel_rfl
theorem as151_203 (v : Value) (w : World) : (Instr.typeAssert (.iface 151 v) 128 203 true).run Tryz.prog w = .ok (.tuple #[.pointer none, .bool false]) w := by kernel_rfl
theorem as151_151 (v : Value) (w : World) : (Instr.typeAssert (.iface 151 v) 128 151 true).run Tryz.prog w = .ok (.tuple #[v, .bool true]) w := by kernel_rfl

set_option maxHeartbeats 400000 in
set_option maxRecDepth 100000 in
theorem getType151_any (w : World) (g : Nat) : Calls Tryz.prog 210 #[.pointer (some ⟨g, 0, none⟩)] w fun e w' => e = .returned (.string (strOf kd1)) ∧ w = w' := by
  go_enter Tryz.func210, Tryz.ntmps210
  go_wp2_with fail
  go_ret
  exact ⟨rfl, rfl⟩

set_option maxHeartbeats 2000000 in
set_option maxRecDepth 100000 in
theorem back1_any (w : World) (g : Nat) (num : Nat) (ca : Option Addr) (cn cc : Nat) (ck : List UInt8)  (h : w.heap[g]? = some (.cells #[.int .u32 num, .slice ca cn cc] 154 (0, 0))) (hnum : num < 4294967296) (hcn : Hid (ck.length = cn)) (hB : ck = [] ∨ ∃ sg so, ca = some ⟨sg, so, none⟩ ∧ BytesAt w sg so ck) :
    Calls Tryz.prog 56 #[.iface 151 (.pointer (some ⟨g, 0, none⟩))] w fun e w' => e = .returned (.agg #[.int .i64 1, .string (strOf kd1), .bool false, .bool false, .int .i64 num, .int .i64 0, .int .i64 0, .string (strOf ck), .string ⟨#[]⟩, .string ⟨#[]⟩, .slice none 0 0, .slice none 0 0]) ∧ Ext none_ w w' := by
  have hm := type_method151
  have ha := type_ahead151
  have t203 := as151_203
  have t151 := as151_151
  have H := Lib.hid h
  clear h
  have HB := Lib.hid hB
  clear hB
  go_enter Tryz.func56, Tryz.ntmps56
  go_wp2_with fail
  have E1 := (Ext.refl none_ w).alloc (.cells #[.int .i64 0, .string ⟨#[]⟩, .bool false, .bool false, .int .i64 0, .int .i64 0, .int .i64 0, .string ⟨#[]⟩, .string ⟨#[]⟩, .string ⟨#[]⟩, .slice none 0 0, .slice none 0 0] 65)
  refine (getType151_any _ g).mono ?_
  rintro e w1 ⟨rfl, rfl⟩
  clear hm ha
  go_wp2_with fail
  have h2 := two_new w (.cells #[.int .i64 0, .string ⟨#[]⟩, .bool false, .bool false, .int .i64 0, .int .i64 0, .int .i64 0, .string ⟨#[]⟩, .string ⟨#[]⟩, .string ⟨#[]⟩, .slice none 0 0, .slice none 0 0] 65 (0, 0)) (.cells #[.int .i64 (-1), .string (strOf kd1), .bool false, .bool false, .int .i64 0, .int .i64 0, .int .i64 0, .string ⟨#[]⟩, .string ⟨#[]⟩, .string ⟨#[]⟩, .slice none 0 0, .slice none 0 0] 65 (0, 0))
  refine cutW (fun W => W.heap[w.heap.size]? = some (.cells #[.int .i64 0, .string ⟨#[]⟩, .bool false, .bool false, .int .i64 0, .int .i64 0, .int .i64 0, .string ⟨#[]⟩, .string ⟨#[]⟩, .string ⟨#[]⟩, .slice none 0 0, .slice none 0 0] 65 (0, 0)) ∧ W.heap[w.heap.size + 1]? = some (.cells #[.int .i64 (-1), .string (strOf kd1), .bool false, .bool false, .int .i64 0, .int .i64 0, .int .i64 0, .string ⟨#[]⟩, .string ⟨#[]⟩, .string ⟨#[]⟩, .slice none 0 0, .slice none 0 0] 65 (0, 0)) ∧ Ext none_ w W) h2 ?_
  clear h2 E1 t203 t151
  rintro W ⟨k0, k1, E1⟩
  have c0 := Lib.cell_of_heap k0
  have c1 := Lib.cell_of_heap k1
  have f1 := Lib.frozen_of_heap k1
  have f0 := Lib.frozen_of_heap k0
  have hg := E1.get H.out (fun h => h)
  have hgl := lt_of_block H.out
  have c2 := Lib.cell_of_heap hg
  have hne : ¬ g = w.heap.size + 1 := by omega
  clear hg
  have hcv := conv_string W ca cc ck (by
    rcases HB.out with h | ⟨sg, so, e1, e2⟩
    · exact .inl h
    · exact .inr ⟨sg, so, e1, e2.ext E1 (fun h => h)⟩)
  have hcvG : ∀ W', Ext (fun b => b = w.heap.size + 1) W W' → (convert 26 9 (.slice ca cn cc)).run Tryz.prog W' = .ok (.string (strOf ck)) W' := fun W' EW => by
    rw [← hcn.out]
    refine conv_string W' ca cc ck ?_
    rcases HB.out with h | ⟨sg, so, e1, e2⟩
    · exact .inl h
    · exact .inr ⟨sg, so, e1, (e2.ext E1 (fun h => h)).ext EW (fun h => by have := e2.lt; omega)⟩
  have v1 := hcvG _ (Ext.refl _ W).drew
  have v2 := hcvG _ ((Ext.refl (fun b => b = w.heap.size + 1) W).setAt (b := w.heap.size + 1) (i := 0) (.inr rfl) (.int .i64 1)).drew
  have v3 := hcvG _ (((Ext.refl (fun b => b = w.heap.size + 1) W).setAt (b := w.heap.size + 1) (i := 0) (.inr rfl) (.int .i64 1)).setAt (b := w.heap.size + 1) (i := 4) (.inr rfl) (.int .i64 num)).drew
  clear hcvG hcv
  go_region
  go_wp2_with fail
  clear c0 c1 f1 f0 c2 v1 v2 v3
  have kA : (((W.setCell ⟨w.heap.size + 1, 0, none⟩ (.int .i64 1)).setCell ⟨w.heap.size + 1, 4, none⟩ (.int .i64 num)).setCell ⟨w.heap.size + 1, 7, none⟩ (.string (strOf ck))).heap[w.heap.size]? = _ := (heap_set_ne (heap_set_ne (heap_set_ne k0 (by omega)) (by omega)) (by omega))
  have K := heap_set (heap_set (heap_set (heap_set (heap_set (heap_set (heap_set (heap_set (heap_set (heap_set (heap_set (heap_set kA (i := 0) (.int .i64 1)) (i := 1) (.string (strOf kd1))) (i := 2) (.bool false)) (i := 3) (.bool false)) (i := 4) (.int .i64 num)) (i := 5) (.int .i64 0)) (i := 6) (.int .i64 0)) (i := 7) (.string (strOf ck))) (i := 8) (.string ⟨#[]⟩)) (i := 9) (.string ⟨#[]⟩)) (i := 10) (.slice none 0 0)) (i := 11) (.slice none 0 0)
  have ck' := Lib.cell_of_heap K
  refine bodyPost_ret (v := .agg #[.int .i64 1, .string (strOf kd1), .bool false, .bool false, .int .i64 num, .int .i64 0, .int .i64 0, .string (strOf ck), .string ⟨#[]⟩, .string ⟨#[]⟩, .slice none 0 0, .slice none 0 0]) (by simp [results, Tryz.results56, go_sem, ck']) rfl ⟨rfl, ?_⟩
  refine Ext.drew ?_
  repeat refine Ext.setAt ?_ (.inl (by omega)) _
  exact E1

end Go.Proofs.YtocjfcgailkfjaaGreatDoor
end
