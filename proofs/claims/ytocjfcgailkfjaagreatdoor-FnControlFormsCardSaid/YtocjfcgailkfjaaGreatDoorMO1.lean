/- DecodeControl of a control of kind 0 with its type alone. DecodeControl of the controls that have no value: kinds 5, 8, 9 and 10. -/
import Derived.Test.YtocjfcgailkfjaaGreatDoorMJ2
import Derived.Test.YtocjfcgailkfjaaGreatDoorMN2

set_option linter.unusedVariables false
set_option linter.unusedSimpArgs false
set_option linter.unusedSectionVars false

section
namespace Go.Proofs.YtocjfcgailkfjaaGreatDoor
open Go.RowKit

set_option maxHeartbeats 1000000 in
set_option maxRecDepth 100000 in
theorem decode1 (w : World) (S : Nat → Prop) (p q0 : Nat) (bs : List UInt8) (kd rest : List UInt8) (hk : Hid (kd = 49 :: 46 :: 50 :: 46 :: 51 :: rest))
    (h : PkOwn w S p 0 32 16 .nilIface bs [q0]) (h0 : PkOwn w S q0 0 0 4 (.iface 9 (.string (strOf kd))) kd []) :
    Calls Tryz.prog 55 #[.pointer (some ⟨p, 0, none⟩)] w (Dec w S kd [] false) := by
  have HP := Lib.hid h
  have HQ0 := Lib.hid h0
  clear h h0
  go_enter Tryz.func55, Tryz.ntmps55
  go_wp2_with fail
  refine (packetChildCount_any w S p 0 32 16 .nilIface bs [q0] HP.out 1 rfl 1 3 _ (by omega) (by omega) (.inr ⟨by omega, by omega⟩) (by omega)).mono ?_
  rintro e w1 ⟨g, c, rfl, rfl⟩
  go_wp2_with fail
  refine (packetChild_any w S p 0 32 16 .nilIface bs [q0] 0 q0 0 rfl HP.out rfl).mono ?_
  rintro e w1 ⟨rfl, rfl⟩
  obtain ⟨d0, row0, bv0, g0, ch0, ds0, hp0, -, -, -, hS0, -⟩ := HQ0.out
  have c0 := Lib.cell_of_heap hp0
  have f0 := Lib.frozen_of_heap hp0
  have D0 := Desc.store hp0 hS0 ⟨#[67, 111, 110, 116, 114, 111, 108, 32, 84, 121, 112, 101, 32, 40, 41]⟩
  clear hp0
  go_wp2_with fail
  refine cutC (fun W => PkOwn W S q0 0 0 4 (.iface 9 (.string (strOf kd))) kd [] ∧ Desc S w W) ⟨HQ0.out.desc D0, D0⟩ ?_
  clear c0 f0 D0 HP HQ0
  rintro W ⟨h0, D0⟩
  obtain ⟨k0, k1, k2, k3, k4, k5, k6, k7, k8, k9, k10, k11, k12, k13, k14⟩ := unknown_kinds kd rest hk.out
  refine (packetString_any W S q0 0 0 4 (strOf kd) kd [] h0).mono ?_
  rintro e w1 ⟨rfl, rfl⟩
  have hs := D0.size
  clear h0
  go_wp2_with fail
  have E2 := (Ext.refl none_ W).alloc (.cells #[.string (strOf kd), .bool false, .string ⟨#[]⟩] 259)
  refine bodyPost_ret (v := .tuple #[.iface 203 (.pointer (some ⟨W.heap.size, 0, none⟩)), .nilIface]) (by simp [results, Tryz.results55]) rfl ⟨W.heap.size, rfl, heap_new W _, hs, D0.trans (Desc.of E2)⟩

set_option maxHeartbeats 1000000 in
set_option maxRecDepth 100000 in
theorem decode2b (w : World) (S : Nat → Prop) (p q0 qb : Nat) (crit : Bool) (bb bs : List UInt8) (kd rest : List UInt8) (hk : Hid (kd = 49 :: 46 :: 50 :: 46 :: 51 :: rest))
    (h : PkOwn w S p 0 32 16 .nilIface bs [q0, qb]) (h0 : PkOwn w S q0 0 0 4 (.iface 9 (.string (strOf kd))) kd []) (hb : PkOwn w S qb 0 0 1 (.iface 4 (.bool crit)) bb []) :
    Calls Tryz.prog 55 #[.pointer (some ⟨p, 0, none⟩)] w (Dec w S kd [] crit) := by
  have HP := Lib.hid h
  have HQ0 := Lib.hid h0
  have HQB := Lib.hid hb
  clear h h0 hb
  go_enter Tryz.func55, Tryz.ntmps55
  go_wp2_with fail
  refine (packetChildCount_any w S p 0 32 16 .nilIface bs [q0, qb] HP.out 2 rfl 1 3 _ (by omega) (by omega) (.inr ⟨by omega, by omega⟩) (by omega)).mono ?_
  rintro e w1 ⟨g, c, rfl, rfl⟩
  go_wp2_with fail
  refine (packetChild_any w S p 0 32 16 .nilIface bs [q0, qb] 0 q0 0 rfl HP.out rfl).mono ?_
  rintro e w1 ⟨rfl, rfl⟩
  obtain ⟨d0, row0, bv0, g0, ch0, ds0, hp0, -, -, -, hS0, -⟩ := HQ0.out
  have c0 := Lib.cell_of_heap hp0
  have f0 := Lib.frozen_of_heap hp0
  have D0 := Desc.store hp0 hS0 ⟨#[67, 111, 110, 116, 114, 111, 108, 32, 84, 121, 112, 101, 32, 40, 41]⟩
  clear hp0
  go_wp2_with fail
  refine cutC (fun W => PkOwn W S p 0 32 16 .nilIface bs [q0, qb] ∧ PkOwn W S q0 0 0 4 (.iface 9 (.string (strOf kd))) kd [] ∧ PkOwn W S qb 0 0 1 (.iface 4 (.bool crit)) bb [] ∧ Desc S w W) ⟨HP.out.desc D0, HQ0.out.desc D0, HQB.out.desc D0, D0⟩ ?_
  clear c0 f0 D0 HP HQ0 HQB
  rintro W ⟨hp, h0, hb, D0⟩
  have HP := Lib.hid hp
  have HQB := Lib.hid hb
  refine (packetString_any W S q0 0 0 4 (strOf kd) kd [] h0).mono ?_
  rintro e w1 ⟨rfl, rfl⟩
  clear hp h0 hb
  go_wp2_with fail
  refine (packetChild_any W S p 0 32 16 .nilIface bs [q0, qb] 1 qb 1 rfl HP.out rfl).mono ?_
  rintro e w1 ⟨rfl, rfl⟩
  obtain ⟨d2, row2, bv2, g2, ch2, ds2, hp2, -, -, -, hS2, -⟩ := HQB.out
  have c2 := Lib.cell_of_heap hp2
  have f2 := Lib.frozen_of_heap hp2
  have D2 := Desc.store hp2 hS2 ⟨#[67, 114, 105, 116, 105, 99, 97, 108, 105, 116, 121]⟩
  clear hp2
  obtain ⟨k0, k1, k2, k3, k4, k5, k6, k7, k8, k9, k10, k11, k12, k13, k14⟩ := unknown_kinds kd rest hk.out
  go_wp2_with fail
  refine cutC (fun X => PkOwn X S qb 0 0 1 (.iface 4 (.bool crit)) bb [] ∧ Desc S w X) ⟨HQB.out.desc D2, D0.trans D2⟩ ?_
  have hs := D0.size
  clear c2 f2 D2 HP HQB D0
  rintro X ⟨hb, D0⟩
  have hsX := D0.size
  refine (packetBool_any X S qb 0 0 1 crit bb [] hb).mono ?_
  rintro e w1 ⟨rfl, rfl⟩
  clear hb
  go_wp2_with fail
  have E2 := (Ext.refl none_ X).alloc (.cells #[.string (strOf kd), .bool crit, .string ⟨#[]⟩] 259)
  refine bodyPost_ret (v := .tuple #[.iface 203 (.pointer (some ⟨X.heap.size, 0, none⟩)), .nilIface]) (by simp [results, Tryz.results55]) rfl ⟨X.heap.size, rfl, heap_new X _, hsX, D0.trans (Desc.of E2)⟩

end Go.Proofs.YtocjfcgailkfjaaGreatDoor
end

section
namespace Go.Proofs.YtocjfcgailkfjaaGreatDoor
open Go.RowKit

theorem kinds1 (kd : List UInt8) (h : kd = kd1) : ((strOf kd).toList == [50, 46, 49, 54, 46, 56, 52, 48, 46, 49, 46, 49, 49, 51, 55, 51, 48, 46, 51, 46, 52, 46, 50]) = false ∧ ((strOf kd).toList == [49, 46, 50, 46, 56, 52, 48, 46, 49, 49, 51, 53, 53, 54, 46, 49, 46, 52, 46, 51, 49, 57]) = true := by
  subst h
  simp only [list_toList]
  refine ⟨?_, ?_⟩ <;> decide

theorem kinds5 (kd : List UInt8) (h : kd = kd5) : ((strOf kd).toList == [50, 46, 49, 54, 46, 56, 52, 48, 46, 49, 46, 49, 49, 51, 55, 51, 48, 46, 51, 46, 52, 46, 50]) = true := by
  subst h
  simp only [list_toList]
  decide

theorem kinds8 (kd : List UInt8) (h : kd = kd8) : ((strOf kd).toList == [50, 46, 49, 54, 46, 56, 52, 48, 46, 49, 46, 49, 49, 51, 55, 51, 48, 46, 51, 46, 52, 46, 50]) = false ∧ ((strOf kd).toList == [49, 46, 50, 46, 56, 52, 48, 46, 49, 49, 51, 53, 53, 54, 46, 49, 46, 52, 46, 51, 49, 57]) = false ∧ ((strOf kd).toList == [49, 46, 51, 46, 54, 46, 49, 46, 52, 46, 49, 46, 52, 50, 46, 50, 46, 50, 55, 46, 56, 46, 53, 46, 49]) = false ∧ ((strOf kd).toList == [50, 46, 49, 54, 46, 56, 52, 48, 46, 49, 46, 49, 49, 51, 55, 51, 48, 46, 51, 46, 52, 46, 52]) = false ∧ ((strOf kd).toList == [50, 46, 49, 54, 46, 56, 52, 48, 46, 49, 46, 49, 49, 51, 55, 51, 48, 46, 51, 46, 52, 46, 53]) = false ∧ ((strOf kd).toList == [49, 46, 50, 46, 56, 52, 48, 46, 49, 49, 51, 53, 53, 54, 46, 49, 46, 52, 46, 53, 50, 56]) = false ∧ ((strOf kd).toList == [49, 46, 50, 46, 56, 52, 48, 46, 49, 49, 51, 53, 53, 54, 46, 49, 46, 52, 46, 52, 49, 55]) = true := by
  subst h
  simp only [list_toList]
  refine ⟨?_, ?_, ?_, ?_, ?_, ?_, ?_⟩ <;> decide

theorem kinds9 (kd : List UInt8) (h : kd = kd9) : ((strOf kd).toList == [50, 46, 49, 54, 46, 56, 52, 48, 46, 49, 46, 49, 49, 51, 55, 51, 48, 46, 51, 46, 52, 46, 50]) = false ∧ ((strOf kd).toList == [49, 46, 50, 46, 56, 52, 48, 46, 49, 49, 51, 53, 53, 54, 46, 49, 46, 52, 46, 51, 49, 57]) = false ∧ ((strOf kd).toList == [49, 46, 51, 46, 54, 46, 49, 46, 52, 46, 49, 46, 52, 50, 46, 50, 46, 50, 55, 46, 56, 46, 53, 46, 49]) = false ∧ ((strOf kd).toList == [50, 46, 49, 54, 46, 56, 52, 48, 46, 49, 46, 49, 49, 51, 55, 51, 48, 46, 51, 46, 52, 46, 52]) = false ∧ ((strOf kd).toList == [50, 46, 49, 54, 46, 56, 52, 48, 46, 49, 46, 49, 49, 51, 55, 51, 48, 46, 51, 46, 52, 46, 53]) = false ∧ ((strOf kd).toList == [49, 46, 50, 46, 56, 52, 48, 46, 49, 49, 51, 53, 53, 54, 46, 49, 46, 52, 46, 53, 50, 56]) = false ∧ ((strOf kd).toList == [49, 46, 50, 46, 56, 52, 48, 46, 49, 49, 51, 53, 53, 54, 46, 49, 46, 52, 46, 52, 49, 55]) = false ∧ ((strOf kd).toList == [49, 46, 50, 46, 56, 52, 48, 46, 49, 49, 51, 53, 53, 54, 46, 49, 46, 52, 46, 50, 51, 48, 57]) = true := by
  subst h
  simp only [list_toList]
  refine ⟨?_, ?_, ?_, ?_, ?_, ?_, ?_, ?_⟩ <;> decide

theorem kinds10 (kd : List UInt8) (h : kd = kd10) : ((strOf kd).toList == [50, 46, 49, 54, 46, 56, 52, 48, 46, 49, 46, 49, 49, 51, 55, 51, 48, 46, 51, 46, 52, 46, 50]) = false ∧ ((strOf kd).toList == [49, 46, 50, 46, 56, 52, 48, 46, 49, 49, 51, 53, 53, 54, 46, 49, 46, 52, 46, 51, 49, 57]) = false ∧ ((strOf kd).toList == [49, 46, 51, 46, 54, 46, 49, 46, 52, 46, 49, 46, 52, 50, 46, 50, 46, 50, 55, 46, 56, 46, 53, 46, 49]) = false ∧ ((strOf kd).toList == [50, 46, 49, 54, 46, 56, 52, 48, 46, 49, 46, 49, 49, 51, 55, 51, 48, 46, 51, 46, 52, 46, 52]) = false ∧ ((strOf kd).toList == [50, 46, 49, 54, 46, 56, 52, 48, 46, 49, 46, 49, 49, 51, 55, 51, 48, 46, 51, 46, 52, 46, 53]) = false ∧ ((strOf kd).toList == [49, 46, 50, 46, 56, 52, 48, 46, 49, 49, 51, 53, 53, 54, 46, 49, 46, 52, 46, 53, 50, 56]) = false ∧ ((strOf kd).toList == [49, 46, 50, 46, 56, 52, 48, 46, 49, 49, 51, 53, 53, 54, 46, 49, 46, 52, 46, 52, 49, 55]) = false ∧ ((strOf kd).toList == [49, 46, 50, 46, 56, 52, 48, 46, 49, 49, 51, 53, 53, 54, 46, 49, 46, 52, 46, 50, 51, 48, 57]) = false ∧ ((strOf kd).toList == [49, 46, 50, 46, 56, 52, 48, 46, 49, 49, 51, 53, 53, 54, 46, 49, 46, 52, 46, 56, 48, 53]) = true := by
  subst h
  simp only [list_toList]
  refine ⟨?_, ?_, ?_, ?_, ?_, ?_, ?_, ?_, ?_⟩ <;> decide

/-- What DecodeControl gives of a control that is nothing but its kind. -/
def DecK (w : World) (S : Nat → Prop) (ty : TypeId) (e : Ending) (w' : World) : Prop :=
  ∃ g, e = .returned (.tuple #[.iface ty (.pointer (some ⟨g, 0, none⟩)), .nilIface]) ∧ Desc S w w'
/-- Of one that asks to leave references alone. -/
def Dec5 (w : World) (S : Nat → Prop) (cr : Bool) (e : Ending) (w' : World) : Prop :=
  ∃ g, e = .returned (.tuple #[.iface 163 (.pointer (some ⟨g, 0, none⟩)), .nilIface]) ∧ w'.heap[g]? = some (.cells #[.bool cr] 261 (0, 0)) ∧ Desc S w w'

set_option maxHeartbeats 1000000 in
set_option maxRecDepth 100000 in
theorem decode8_one (w : World) (S : Nat → Prop) (p q0 : Nat) (bs : List UInt8) (kd : List UInt8) (hk : Hid (kd = kd8))
    (h : PkOwn w S p 0 32 16 .nilIface bs [q0]) (h0 : PkOwn w S q0 0 0 4 (.iface 9 (.string (strOf kd))) kd []) :
    Calls Tryz.prog 55 #[.pointer (some ⟨p, 0, none⟩)] w (DecK w S 170) := by
  have HP := Lib.hid h
  have HQ0 := Lib.hid h0
  clear h h0
  go_enter Tryz.func55, Tryz.ntmps55
  go_wp2_with fail
  refine (packetChildCount_any w S p 0 32 16 .nilIface bs [q0] HP.out 1 rfl 1 3 _ (by omega) (by omega) (.inr ⟨by omega, by omega⟩) (by omega)).mono ?_
  rintro e w1 ⟨g, c, rfl, rfl⟩
  go_wp2_with fail
  refine (packetChild_any w S p 0 32 16 .nilIface bs [q0] 0 q0 0 rfl HP.out rfl).mono ?_
  rintro e w1 ⟨rfl, rfl⟩
  obtain ⟨d0, row0, bv0, g0, ch0, ds0, hp0, -, -, -, hS0, -⟩ := HQ0.out
  have c0 := Lib.cell_of_heap hp0
  have f0 := Lib.frozen_of_heap hp0
  have D0 := Desc.store hp0 hS0 ⟨#[67, 111, 110, 116, 114, 111, 108, 32, 84, 121, 112, 101, 32, 40, 41]⟩
  clear hp0
  go_wp2_with fail
  refine cutC (fun W => PkOwn W S q0 0 0 4 (.iface 9 (.string (strOf kd))) kd [] ∧ Desc S w W) ⟨HQ0.out.desc D0, D0⟩ ?_
  clear c0 f0 D0 HP HQ0
  rintro W ⟨h0, D0⟩
  have ⟨k0, k1, k2, k3, k4, k5, k6⟩ := kinds8 kd hk.out
  refine (packetString_any W S q0 0 0 4 (strOf kd) kd [] h0).mono ?_
  rintro e w1 ⟨rfl, rfl⟩
  clear h0
  go_wp2_with fail
  refine (new75_any _).mono ?_
  rintro e w1 ⟨⟨g, rfl⟩, E2⟩
  go_wp2_with fail
  refine bodyPost_ret (v := .tuple #[.iface 170 (.pointer (some ⟨g, 0, none⟩)), .nilIface]) (by simp [results, Tryz.results55]) rfl ⟨g, rfl, D0.trans (Desc.of E2)⟩

set_option maxHeartbeats 1000000 in
set_option maxRecDepth 100000 in
theorem decode9_one (w : World) (S : Nat → Prop) (p q0 : Nat) (bs : List UInt8) (kd : List UInt8) (hk : Hid (kd = kd9))
    (h : PkOwn w S p 0 32 16 .nilIface bs [q0]) (h0 : PkOwn w S q0 0 0 4 (.iface 9 (.string (strOf kd))) kd []) :
    Calls Tryz.prog 55 #[.pointer (some ⟨p, 0, none⟩)] w (DecK w S 172) := by
  have HP := Lib.hid h
  have HQ0 := Lib.hid h0
  clear h h0
  go_enter Tryz.func55, Tryz.ntmps55
  go_wp2_with fail
  refine (packetChildCount_any w S p 0 32 16 .nilIface bs [q0] HP.out 1 rfl 1 3 _ (by omega) (by omega) (.inr ⟨by omega, by omega⟩) (by omega)).mono ?_
  rintro e w1 ⟨g, c, rfl, rfl⟩
  go_wp2_with fail
  refine (packetChild_any w S p 0 32 16 .nilIface bs [q0] 0 q0 0 rfl HP.out rfl).mono ?_
  rintro e w1 ⟨rfl, rfl⟩
  obtain ⟨d0, row0, bv0, g0, ch0, ds0, hp0, -, -, -, hS0, -⟩ := HQ0.out
  have c0 := Lib.cell_of_heap hp0
  have f0 := Lib.frozen_of_heap hp0
  have D0 := Desc.store hp0 hS0 ⟨#[67, 111, 110, 116, 114, 111, 108, 32, 84, 121, 112, 101, 32, 40, 41]⟩
  clear hp0
  go_wp2_with fail
  refine cutC (fun W => PkOwn W S q0 0 0 4 (.iface 9 (.string (strOf kd))) kd [] ∧ Desc S w W) ⟨HQ0.out.desc D0, D0⟩ ?_
  clear c0 f0 D0 HP HQ0
  rintro W ⟨h0, D0⟩
  have ⟨k0, k1, k2, k3, k4, k5, k6, k7⟩ := kinds9 kd hk.out
  refine (packetString_any W S q0 0 0 4 (strOf kd) kd [] h0).mono ?_
  rintro e w1 ⟨rfl, rfl⟩
  clear h0
  go_wp2_with fail
  refine (new76_any _).mono ?_
  rintro e w1 ⟨⟨g, rfl⟩, E2⟩
  go_wp2_with fail
  refine bodyPost_ret (v := .tuple #[.iface 172 (.pointer (some ⟨g, 0, none⟩)), .nilIface]) (by simp [results, Tryz.results55]) rfl ⟨g, rfl, D0.trans (Desc.of E2)⟩

set_option maxHeartbeats 1000000 in
set_option maxRecDepth 100000 in
theorem decode10_one (w : World) (S : Nat → Prop) (p q0 : Nat) (bs : List UInt8) (kd : List UInt8) (hk : Hid (kd = kd10))
    (h : PkOwn w S p 0 32 16 .nilIface bs [q0]) (h0 : PkOwn w S q0 0 0 4 (.iface 9 (.string (strOf kd))) kd []) :
    Calls Tryz.prog 55 #[.pointer (some ⟨p, 0, none⟩)] w (DecK w S 174) := by
  have HP := Lib.hid h
  have HQ0 := Lib.hid h0
  clear h h0
  go_enter Tryz.func55, Tryz.ntmps55
  go_wp2_with fail
  refine (packetChildCount_any w S p 0 32 16 .nilIface bs [q0] HP.out 1 rfl 1 3 _ (by omega) (by omega) (.inr ⟨by omega, by omega⟩) (by omega)).mono ?_
  rintro e w1 ⟨g, c, rfl, rfl⟩
  go_wp2_with fail
  refine (packetChild_any w S p 0 32 16 .nilIface bs [q0] 0 q0 0 rfl HP.out rfl).mono ?_
  rintro e w1 ⟨rfl, rfl⟩
  obtain ⟨d0, row0, bv0, g0, ch0, ds0, hp0, -, -, -, hS0, -⟩ := HQ0.out
  have c0 := Lib.cell_of_heap hp0
  have f0 := Lib.frozen_of_heap hp0
  have D0 := Desc.store hp0 hS0 ⟨#[67, 111, 110, 116, 114, 111, 108, 32, 84, 121, 112, 101, 32, 40, 41]⟩
  clear hp0
  go_wp2_with fail
  refine cutC (fun W => PkOwn W S q0 0 0 4 (.iface 9 (.string (strOf kd))) kd [] ∧ Desc S w W) ⟨HQ0.out.desc D0, D0⟩ ?_
  clear c0 f0 D0 HP HQ0
  rintro W ⟨h0, D0⟩
  have ⟨k0, k1, k2, k3, k4, k5, k6, k7, k8⟩ := kinds10 kd hk.out
  refine (packetString_any W S q0 0 0 4 (strOf kd) kd [] h0).mono ?_
  rintro e w1 ⟨rfl, rfl⟩
  clear h0
  go_wp2_with fail
  refine (new77_any _).mono ?_
  rintro e w1 ⟨⟨g, rfl⟩, E2⟩
  go_wp2_with fail
  refine bodyPost_ret (v := .tuple #[.iface 174 (.pointer (some ⟨g, 0, none⟩)), .nilIface]) (by simp [results, Tryz.results55]) rfl ⟨g, rfl, D0.trans (Desc.of E2)⟩

set_option maxHeartbeats 1000000 in
set_option maxRecDepth 100000 in
theorem decode5_one (w : World) (S : Nat → Prop) (p q0 : Nat) (bs : List UInt8) (kd : List UInt8) (hk : Hid (kd = kd5))
    (h : PkOwn w S p 0 32 16 .nilIface bs [q0]) (h0 : PkOwn w S q0 0 0 4 (.iface 9 (.string (strOf kd))) kd []) :
    Calls Tryz.prog 55 #[.pointer (some ⟨p, 0, none⟩)] w (Dec5 w S false) := by
  have HP := Lib.hid h
  have HQ0 := Lib.hid h0
  clear h h0
  go_enter Tryz.func55, Tryz.ntmps55
  go_wp2_with fail
  refine (packetChildCount_any w S p 0 32 16 .nilIface bs [q0] HP.out 1 rfl 1 3 _ (by omega) (by omega) (.inr ⟨by omega, by omega⟩) (by omega)).mono ?_
  rintro e w1 ⟨g, c, rfl, rfl⟩
  go_wp2_with fail
  refine (packetChild_any w S p 0 32 16 .nilIface bs [q0] 0 q0 0 rfl HP.out rfl).mono ?_
  rintro e w1 ⟨rfl, rfl⟩
  obtain ⟨d0, row0, bv0, g0, ch0, ds0, hp0, -, -, -, hS0, -⟩ := HQ0.out
  have c0 := Lib.cell_of_heap hp0
  have f0 := Lib.frozen_of_heap hp0
  have D0 := Desc.store hp0 hS0 ⟨#[67, 111, 110, 116, 114, 111, 108, 32, 84, 121, 112, 101, 32, 40, 41]⟩
  clear hp0
  go_wp2_with fail
  refine cutC (fun W => PkOwn W S q0 0 0 4 (.iface 9 (.string (strOf kd))) kd [] ∧ Desc S w W) ⟨HQ0.out.desc D0, D0⟩ ?_
  clear c0 f0 D0 HP HQ0
  rintro W ⟨h0, D0⟩
  have k0 := kinds5 kd hk.out
  refine (packetString_any W S q0 0 0 4 (strOf kd) kd [] h0).mono ?_
  rintro e w1 ⟨rfl, rfl⟩
  clear h0
  go_wp2_with fail
  refine (new73_any _ _).mono ?_
  rintro e w1 ⟨rfl, rfl⟩
  go_wp2_with fail
  have E2 := (Ext.refl none_ W).alloc (.cells #[.bool false] 261)
  refine bodyPost_ret (v := .tuple #[.iface 163 (.pointer (some ⟨W.heap.size, 0, none⟩)), .nilIface]) (by simp [results, Tryz.results55]) rfl ⟨W.heap.size, rfl, heap_new W _, D0.trans (Desc.of E2)⟩

set_option maxHeartbeats 1000000 in
set_option maxRecDepth 100000 in
theorem decode5_two (w : World) (S : Nat → Prop) (p q0 qb : Nat) (crit : Bool) (bb bs : List UInt8) (kd : List UInt8) (hk : Hid (kd = kd5))
    (h : PkOwn w S p 0 32 16 .nilIface bs [q0, qb]) (h0 : PkOwn w S q0 0 0 4 (.iface 9 (.string (strOf kd))) kd []) (hb : PkOwn w S qb 0 0 1 (.iface 4 (.bool crit)) bb []) :
    Calls Tryz.prog 55 #[.pointer (some ⟨p, 0, none⟩)] w (Dec5 w S crit) := by
  have HP := Lib.hid h
  have HQ0 := Lib.hid h0
  have HQB := Lib.hid hb
  clear h h0 hb
  go_enter Tryz.func55, Tryz.ntmps55
  go_wp2_with fail
  refine (packetChildCount_any w S p 0 32 16 .nilIface bs [q0, qb] HP.out 2 rfl 1 3 _ (by omega) (by omega) (.inr ⟨by omega, by omega⟩) (by omega)).mono ?_
  rintro e w1 ⟨g, c, rfl, rfl⟩
  go_wp2_with fail
  refine (packetChild_any w S p 0 32 16 .nilIface bs [q0, qb] 0 q0 0 rfl HP.out rfl).mono ?_
  rintro e w1 ⟨rfl, rfl⟩
  obtain ⟨d0, row0, bv0, g0, ch0, ds0, hp0, -, -, -, hS0, -⟩ := HQ0.out
  have c0 := Lib.cell_of_heap hp0
  have f0 := Lib.frozen_of_heap hp0
  have D0 := Desc.store hp0 hS0 ⟨#[67, 111, 110, 116, 114, 111, 108, 32, 84, 121, 112, 101, 32, 40, 41]⟩
  clear hp0
  go_wp2_with fail
  refine cutC (fun W => PkOwn W S p 0 32 16 .nilIface bs [q0, qb] ∧ PkOwn W S q0 0 0 4 (.iface 9 (.string (strOf kd))) kd [] ∧ PkOwn W S qb 0 0 1 (.iface 4 (.bool crit)) bb [] ∧ Desc S w W) ⟨HP.out.desc D0, HQ0.out.desc D0, HQB.out.desc D0, D0⟩ ?_
  clear c0 f0 D0 HP HQ0 HQB
  rintro W ⟨hp, h0, hb, D0⟩
  have HP := Lib.hid hp
  have HQB := Lib.hid hb
  refine (packetString_any W S q0 0 0 4 (strOf kd) kd [] h0).mono ?_
  rintro e w1 ⟨rfl, rfl⟩
  clear hp h0 hb
  go_wp2_with fail
  refine (packetChild_any W S p 0 32 16 .nilIface bs [q0, qb] 1 qb 1 rfl HP.out rfl).mono ?_
  rintro e w1 ⟨rfl, rfl⟩
  obtain ⟨d2, row2, bv2, g2, ch2, ds2, hp2, -, -, -, hS2, -⟩ := HQB.out
  have c2 := Lib.cell_of_heap hp2
  have f2 := Lib.frozen_of_heap hp2
  have D2 := Desc.store hp2 hS2 ⟨#[67, 114, 105, 116, 105, 99, 97, 108, 105, 116, 121]⟩
  clear hp2
  have k0 := kinds5 kd hk.out
  go_wp2_with fail
  refine cutC (fun X => PkOwn X S qb 0 0 1 (.iface 4 (.bool crit)) bb [] ∧ Desc S w X) ⟨HQB.out.desc D2, D0.trans D2⟩ ?_
  have hs := D0.size
  clear c2 f2 D2 HP HQB D0
  rintro X ⟨hb, D0⟩
  have hsX := D0.size
  refine (packetBool_any X S qb 0 0 1 crit bb [] hb).mono ?_
  rintro e w1 ⟨rfl, rfl⟩
  clear hb
  go_wp2_with fail
  refine (new73_any _ _).mono ?_
  rintro e w1 ⟨rfl, rfl⟩
  go_wp2_with fail
  have E2 := (Ext.refl none_ X).alloc (.cells #[.bool crit] 261)
  refine bodyPost_ret (v := .tuple #[.iface 163 (.pointer (some ⟨X.heap.size, 0, none⟩)), .nilIface]) (by simp [results, Tryz.results55]) rfl ⟨X.heap.size, rfl, heap_new X _, D0.trans (Desc.of E2)⟩

end Go.Proofs.YtocjfcgailkfjaaGreatDoor
end
