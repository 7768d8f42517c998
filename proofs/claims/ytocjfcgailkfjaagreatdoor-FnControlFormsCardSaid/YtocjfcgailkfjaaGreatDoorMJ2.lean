/- DecodeControl of controls that nobody knows. backControl of an unknown control; a control's cells. -/
import Derived.Test.YtocjfcgailkfjaaGreatDoorMJ1
import Derived.Test.YtocjfcgailkfjaaGreatDoorMG3
import Derived.BigRegion
import Derived.RegionTactic

set_option linter.unusedVariables false
set_option linter.unusedSimpArgs false
set_option linter.unusedSectionVars false

section
namespace Go.Proofs.YtocjfcgailkfjaaGreatDoor
open Go.RowKit

theorem ValOk.str {d : List UInt8} {v : Value} (h : ValOk 0 4 d v) : v = .iface 9 (.string (strOf d)) := by
  rcases h with ⟨_, h, _⟩ | ⟨_, h, _⟩ | ⟨_, _, h⟩ | ⟨h, _⟩
  · omega
  · omega
  · exact h
  · exact absurd rfl h
theorem ValOk.truth {b : Bool} {v : Value} (h : ValOk 0 1 [if b then 255 else 0] v) : v = .iface 4 (.bool b) := by
  rcases h with ⟨_, _, h⟩ | ⟨_, h, _⟩ | ⟨_, h, _⟩ | ⟨h, _⟩
  · rw [h]
    have h255 : parseI [255] = -1 := parseI_one ⟨255, by omega⟩
    have h0 : parseI [0] = 0 := parseI_one ⟨0, by omega⟩
    cases b
    · simp [h0]
    · simp [h255]
  · omega
  · omega
  · exact absurd rfl h

theorem list_toList (l : List UInt8) : (strOf l).toList = l := by
  rw [ByteArray.toList_eq]; rfl

/-- A type that is none of those that are known. -/
theorem unknown_kinds (kd rest : List UInt8) (h : kd = 49 :: 46 :: 50 :: 46 :: 51 :: rest) : ((strOf kd).toList == [50, 46, 49, 54, 46, 56, 52, 48, 46, 49, 46, 49, 49, 51, 55, 51, 48, 46, 51, 46, 52, 46, 50]) = false ∧ ((strOf kd).toList == [49, 46, 50, 46, 56, 52, 48, 46, 49, 49, 51, 53, 53, 54, 46, 49, 46, 52, 46, 51, 49, 57]) = false ∧ ((strOf kd).toList == [49, 46, 51, 46, 54, 46, 49, 46, 52, 46, 49, 46, 52, 50, 46, 50, 46, 50, 55, 46, 56, 46, 53, 46, 49]) = false ∧ ((strOf kd).toList == [50, 46, 49, 54, 46, 56, 52, 48, 46, 49, 46, 49, 49, 51, 55, 51, 48, 46, 51, 46, 52, 46, 52]) = false ∧ ((strOf kd).toList == [50, 46, 49, 54, 46, 56, 52, 48, 46, 49, 46, 49, 49, 51, 55, 51, 48, 46, 51, 46, 52, 46, 53]) = false ∧ ((strOf kd).toList == [49, 46, 50, 46, 56, 52, 48, 46, 49, 49, 51, 53, 53, 54, 46, 49, 46, 52, 46, 53, 50, 56]) = false ∧ ((strOf kd).toList == [49, 46, 50, 46, 56, 52, 48, 46, 49, 49, 51, 53, 53, 54, 46, 49, 46, 52, 46, 52, 49, 55]) = false ∧ ((strOf kd).toList == [49, 46, 50, 46, 56, 52, 48, 46, 49, 49, 51, 53, 53, 54, 46, 49, 46, 52, 46, 50, 51, 48, 57]) = false ∧ ((strOf kd).toList == [49, 46, 50, 46, 56, 52, 48, 46, 49, 49, 51, 53, 53, 54, 46, 49, 46, 52, 46, 56, 48, 53]) = false ∧ ((strOf kd).toList == [49, 46, 50, 46, 56, 52, 48, 46, 49, 49, 51, 53, 53, 54, 46, 49, 46, 52, 46, 52, 55, 51]) = false ∧ ((strOf kd).toList == [49, 46, 50, 46, 56, 52, 48, 46, 49, 49, 51, 53, 53, 54, 46, 49, 46, 52, 46, 52, 55, 52]) = false ∧ ((strOf kd).toList == [49, 46, 50, 46, 56, 52, 48, 46, 49, 49, 51, 53, 53, 54, 46, 49, 46, 52, 46, 56, 52, 49]) = false ∧ ((strOf kd).toList == [49, 46, 51, 46, 54, 46, 49, 46, 52, 46, 49, 46, 52, 50, 48, 51, 46, 49, 46, 57, 46, 49, 46, 50]) = false ∧ ((strOf kd).toList == [49, 46, 51, 46, 54, 46, 49, 46, 52, 46, 49, 46, 52, 50, 48, 51, 46, 49, 46, 57, 46, 49, 46, 51]) = false ∧ ((strOf kd).toList == [49, 46, 51, 46, 54, 46, 49, 46, 52, 46, 49, 46, 52, 50, 48, 51, 46, 49, 46, 57, 46, 49, 46, 52]) = false := by
  subst h
  simp only [list_toList]
  refine ⟨?_, ?_, ?_, ?_, ?_, ?_, ?_, ?_, ?_, ?_, ?_, ?_, ?_, ?_, ?_⟩ <;> simp [strOf]

/-- What DecodeControl gives of such a control. -/
def Dec (w : World) (S : Nat → Prop) (kd vl : List UInt8) (b : Bool) (e : Ending) (w' : World) : Prop :=
  ∃ g, e = .returned (.tuple #[.iface 203 (.pointer (some ⟨g, 0, none⟩)), .nilIface]) ∧ w'.heap[g]? = some (.cells #[.string (strOf kd), .bool b, .string (strOf vl)] 259 (0, 0)) ∧ w.heap.size ≤ g ∧ Desc S w w'

set_option maxHeartbeats 1000000 in
set_option maxRecDepth 100000 in
theorem decode2 (w : World) (S : Nat → Prop) (p q0 q1 : Nat) (bs : List UInt8) (kd vl rest : List UInt8) (hk : Hid (kd = 49 :: 46 :: 50 :: 46 :: 51 :: rest))
    (h : PkOwn w S p 0 32 16 .nilIface bs [q0, q1]) (h0 : PkOwn w S q0 0 0 4 (.iface 9 (.string (strOf kd))) kd []) (h1 : PkOwn w S q1 0 0 4 (.iface 9 (.string (strOf vl))) vl []) :
    Calls Tryz.prog 55 #[.pointer (some ⟨p, 0, none⟩)] w (Dec w S kd vl false) := by
  have HP := Lib.hid h
  have HQ0 := Lib.hid h0
  have HQ1 := Lib.hid h1
  clear h h0 h1
  go_enter Tryz.func55, Tryz.ntmps55
  go_wp2_with fail
  refine (packetChildCount_any w S p 0 32 16 .nilIface bs [q0, q1] HP.out 2 rfl 1 3 _ (by omega) (by omega) (.inr ⟨by omega, by omega⟩) (by omega)).mono ?_
  rintro e w1 ⟨g, c, rfl, rfl⟩
  go_wp2_with fail
  refine (packetChild_any w S p 0 32 16 .nilIface bs [q0, q1] 0 q0 0 rfl HP.out rfl).mono ?_
  rintro e w1 ⟨rfl, rfl⟩
  obtain ⟨d0, row0, bv0, g0, ch0, ds0, hp0, -, -, -, hS0, -⟩ := HQ0.out
  have c0 := Lib.cell_of_heap hp0
  have f0 := Lib.frozen_of_heap hp0
  have D0 := Desc.store hp0 hS0 ⟨#[67, 111, 110, 116, 114, 111, 108, 32, 84, 121, 112, 101, 32, 40, 41]⟩
  clear hp0
  go_wp2_with fail
  refine cutC (fun W => PkOwn W S p 0 32 16 .nilIface bs [q0, q1] ∧ PkOwn W S q0 0 0 4 (.iface 9 (.string (strOf kd))) kd [] ∧ PkOwn W S q1 0 0 4 (.iface 9 (.string (strOf vl))) vl [] ∧ Desc S w W) ⟨HP.out.desc D0, HQ0.out.desc D0, HQ1.out.desc D0, D0⟩ ?_
  clear c0 f0 D0 HP HQ0 HQ1
  rintro W ⟨hp, h0, h1, D0⟩
  have HP := Lib.hid hp
  have HQ1 := Lib.hid h1
  refine (packetString_any W S q0 0 0 4 (strOf kd) kd [] h0).mono ?_
  rintro e w1 ⟨rfl, rfl⟩
  clear hp h0 h1
  go_wp2_with fail
  refine (packetChild_any W S p 0 32 16 .nilIface bs [q0, q1] 1 q1 1 rfl HP.out rfl).mono ?_
  rintro e w1 ⟨rfl, rfl⟩
  obtain ⟨d1, row1, bv1, g1, ch1, ds1, hp1, -, -, -, hS1, -⟩ := HQ1.out
  have c1 := Lib.cell_of_heap hp1
  have f1 := Lib.frozen_of_heap hp1
  have D1 := Desc.store hp1 hS1 ⟨#[67, 111, 110, 116, 114, 111, 108, 32, 86, 97, 108, 117, 101]⟩
  clear hp1
  obtain ⟨k0, k1, k2, k3, k4, k5, k6, k7, k8, k9, k10, k11, k12, k13, k14⟩ := unknown_kinds kd rest hk.out
  go_wp2_with fail
  have E2 := (Ext.refl none_ (W.setCell ⟨q1, 7, none⟩ (.string ⟨#[67, 111, 110, 116, 114, 111, 108, 32, 86, 97, 108, 117, 101]⟩))).alloc (.cells #[.string (strOf kd), .bool false, .string ⟨#[]⟩] 259)
  refine cutC (fun X => PkOwn X S q1 0 0 4 (.iface 9 (.string (strOf vl))) vl [] ∧ X.heap[W.heap.size]? = some (.cells #[.string (strOf kd), .bool false, .string ⟨#[]⟩] 259 (0, 0)) ∧ Desc S W X) ⟨(HQ1.out.desc D1).ext E2, by
    have := heap_new (W.setCell ⟨q1, 7, none⟩ (.string ⟨#[67, 111, 110, 116, 114, 111, 108, 32, 86, 97, 108, 117, 101]⟩)) (.cells #[.string (strOf kd), .bool false, .string ⟨#[]⟩] 259 (0, 0))
    rwa [World.size_setCell] at this, D1.trans (Desc.of E2)⟩ ?_
  clear c1 f1 D1 HP HQ1 E2 k0 k1 k2 k3 k4 k5 k6 k7 k8 k9 k10 k11 k12 k13 k14
  rintro X ⟨hq1, hn, D2⟩
  refine (packetString_any X S q1 0 0 4 (strOf vl) vl [] hq1).mono ?_
  rintro e w1 ⟨rfl, rfl⟩
  have cn := Lib.cell_of_heap hn
  have fn := Lib.frozen_of_heap hn
  have HN := Lib.hid hn
  have hs := D0.size
  clear hq1 hn
  go_wp2_with fail
  have E3 := (Ext.refl (fun i => W.heap.size ≤ i) X).setAt (b := W.heap.size) (i := 2) (.inr (Nat.le_refl _)) (.string (strOf vl))
  refine bodyPost_ret (v := .tuple #[.iface 203 (.pointer (some ⟨W.heap.size, 0, none⟩)), .nilIface]) (by simp [results, Tryz.results55]) rfl ⟨W.heap.size, rfl, heap_set HN.out _, hs, D0.trans (D2.step E3)⟩

set_option maxHeartbeats 1000000 in
set_option maxRecDepth 100000 in
theorem decode3 (w : World) (S : Nat → Prop) (p q0 qb q1 : Nat) (crit : Bool) (bb : List UInt8) (bs : List UInt8) (kd vl rest : List UInt8) (hk : Hid (kd = 49 :: 46 :: 50 :: 46 :: 51 :: rest))
    (h : PkOwn w S p 0 32 16 .nilIface bs [q0, qb, q1]) (h0 : PkOwn w S q0 0 0 4 (.iface 9 (.string (strOf kd))) kd []) (hb : PkOwn w S qb 0 0 1 (.iface 4 (.bool crit)) bb []) (h1 : PkOwn w S q1 0 0 4 (.iface 9 (.string (strOf vl))) vl []) :
    Calls Tryz.prog 55 #[.pointer (some ⟨p, 0, none⟩)] w (Dec w S kd vl crit) := by
  have HP := Lib.hid h
  have HQ0 := Lib.hid h0
  have HQ1 := Lib.hid h1
  have HQB := Lib.hid hb
  clear h h0 h1 hb
  go_enter Tryz.func55, Tryz.ntmps55
  go_wp2_with fail
  refine (packetChildCount_any w S p 0 32 16 .nilIface bs [q0, qb, q1] HP.out 3 rfl 1 3 _ (by omega) (by omega) (.inr ⟨by omega, by omega⟩) (by omega)).mono ?_
  rintro e w1 ⟨g, c, rfl, rfl⟩
  go_wp2_with fail
  refine (packetChild_any w S p 0 32 16 .nilIface bs [q0, qb, q1] 0 q0 0 rfl HP.out rfl).mono ?_
  rintro e w1 ⟨rfl, rfl⟩
  obtain ⟨d0, row0, bv0, g0, ch0, ds0, hp0, -, -, -, hS0, -⟩ := HQ0.out
  have c0 := Lib.cell_of_heap hp0
  have f0 := Lib.frozen_of_heap hp0
  have D0 := Desc.store hp0 hS0 ⟨#[67, 111, 110, 116, 114, 111, 108, 32, 84, 121, 112, 101, 32, 40, 41]⟩
  clear hp0
  go_wp2_with fail
  refine cutC (fun W => PkOwn W S p 0 32 16 .nilIface bs [q0, qb, q1] ∧ PkOwn W S q0 0 0 4 (.iface 9 (.string (strOf kd))) kd [] ∧ PkOwn W S qb 0 0 1 (.iface 4 (.bool crit)) bb [] ∧ PkOwn W S q1 0 0 4 (.iface 9 (.string (strOf vl))) vl [] ∧ Desc S w W) ⟨HP.out.desc D0, HQ0.out.desc D0, HQB.out.desc D0, HQ1.out.desc D0, D0⟩ ?_
  clear c0 f0 D0 HP HQ0 HQ1 HQB
  rintro W ⟨hp, h0, hb, h1, D0⟩
  have HP := Lib.hid hp
  have HQ1 := Lib.hid h1
  have HQB := Lib.hid hb
  refine (packetString_any W S q0 0 0 4 (strOf kd) kd [] h0).mono ?_
  rintro e w1 ⟨rfl, rfl⟩
  clear hp h0 h1 hb
  go_wp2_with fail
  refine (packetChild_any W S p 0 32 16 .nilIface bs [q0, qb, q1] 1 qb 1 rfl HP.out rfl).mono ?_
  rintro e w1 ⟨rfl, rfl⟩
  obtain ⟨d2, row2, bv2, g2, ch2, ds2, hp2, -, -, -, hS2, -⟩ := HQB.out
  have c2 := Lib.cell_of_heap hp2
  have f2 := Lib.frozen_of_heap hp2
  have D2 := Desc.store hp2 hS2 ⟨#[67, 114, 105, 116, 105, 99, 97, 108, 105, 116, 121]⟩
  clear hp2
  go_wp2_with fail
  refine cutC (fun X => PkOwn X S p 0 32 16 .nilIface bs [q0, qb, q1] ∧ PkOwn X S qb 0 0 1 (.iface 4 (.bool crit)) bb [] ∧ PkOwn X S q1 0 0 4 (.iface 9 (.string (strOf vl))) vl [] ∧ Desc S w X) ⟨HP.out.desc D2, HQB.out.desc D2, HQ1.out.desc D2, D0.trans D2⟩ ?_
  clear c2 f2 D2 HP HQB HQ1 D0
  clear W
  rintro W ⟨hp, hb, h1, D0⟩
  have HP := Lib.hid hp
  have HQ1 := Lib.hid h1
  refine (packetBool_any W S qb 0 0 1 crit bb [] hb).mono ?_
  rintro e w1 ⟨rfl, rfl⟩
  clear hp hb h1
  go_wp2_with fail
  refine (packetChild_any W S p 0 32 16 .nilIface bs [q0, qb, q1] 2 q1 2 rfl HP.out rfl).mono ?_
  rintro e w1 ⟨rfl, rfl⟩
  obtain ⟨d1, row1, bv1, g1, ch1, ds1, hp1, -, -, -, hS1, -⟩ := HQ1.out
  have c1 := Lib.cell_of_heap hp1
  have f1 := Lib.frozen_of_heap hp1
  have D1 := Desc.store hp1 hS1 ⟨#[67, 111, 110, 116, 114, 111, 108, 32, 86, 97, 108, 117, 101]⟩
  clear hp1
  obtain ⟨k0, k1, k2, k3, k4, k5, k6, k7, k8, k9, k10, k11, k12, k13, k14⟩ := unknown_kinds kd rest hk.out
  go_wp2_with fail
  have E2 := (Ext.refl none_ (W.setCell ⟨q1, 7, none⟩ (.string ⟨#[67, 111, 110, 116, 114, 111, 108, 32, 86, 97, 108, 117, 101]⟩))).alloc (.cells #[.string (strOf kd), .bool crit, .string ⟨#[]⟩] 259)
  refine cutC (fun X => PkOwn X S q1 0 0 4 (.iface 9 (.string (strOf vl))) vl [] ∧ X.heap[W.heap.size]? = some (.cells #[.string (strOf kd), .bool crit, .string ⟨#[]⟩] 259 (0, 0)) ∧ Desc S W X) ⟨(HQ1.out.desc D1).ext E2, by
    have := heap_new (W.setCell ⟨q1, 7, none⟩ (.string ⟨#[67, 111, 110, 116, 114, 111, 108, 32, 86, 97, 108, 117, 101]⟩)) (.cells #[.string (strOf kd), .bool crit, .string ⟨#[]⟩] 259 (0, 0))
    rwa [World.size_setCell] at this, D1.trans (Desc.of E2)⟩ ?_
  clear c1 f1 D1 HP HQ1 E2 k0 k1 k2 k3 k4 k5 k6 k7 k8 k9 k10 k11 k12 k13 k14
  rintro X ⟨hq1, hn, D2⟩
  refine (packetString_any X S q1 0 0 4 (strOf vl) vl [] hq1).mono ?_
  rintro e w1 ⟨rfl, rfl⟩
  have cn := Lib.cell_of_heap hn
  have fn := Lib.frozen_of_heap hn
  have HN := Lib.hid hn
  have hs := D0.size
  clear hq1 hn
  go_wp2_with fail
  have E3 := (Ext.refl (fun i => W.heap.size ≤ i) X).setAt (b := W.heap.size) (i := 2) (.inr (Nat.le_refl _)) (.string (strOf vl))
  refine bodyPost_ret (v := .tuple #[.iface 203 (.pointer (some ⟨W.heap.size, 0, none⟩)), .nilIface]) (by simp [results, Tryz.results55]) rfl ⟨W.heap.size, rfl, heap_set HN.out _, hs, D0.trans (D2.step E3)⟩

/-- DecodeControl of a control that nobody knows. -/
theorem decode_any (w : World) (S : Nat → Prop) (p : Nat) (kd vl rest : List UInt8) (crit told : Bool) (hk : Hid (kd = 49 :: 46 :: 50 :: 46 :: 51 :: rest)) (h : PkAt ValOk w S (ctlT kd crit told vl) p) :
    Calls Tryz.prog 55 #[.pointer (some ⟨p, 0, none⟩)] w (Dec w S kd vl crit) := by
  unfold ctlT PkAt at h
  obtain ⟨ps, h1, h2⟩ := h
  by_cases ht : (told || crit) = true
  · rw [if_pos ht] at h1 h2
    match ps, h2 with
    | [q0, qb, q1], h2 =>
      simp only [List.cons_append, List.nil_append, PkAtL, PkAt, and_true] at h2
      obtain ⟨⟨v0, a0, b0⟩, ⟨vb, ab, bb⟩, ⟨v1, a1, b1⟩⟩ := h2
      rw [b0.str] at a0
      rw [b1.str] at a1
      rw [bb.truth] at ab
      exact decode3 w S p q0 qb q1 crit _ _ kd vl rest hk h1 a0 ab a1
    | [], h2 => simp [PkAtL] at h2
    | [_], h2 => simp [PkAtL] at h2
    | [_, _], h2 => simp [PkAtL] at h2
    | _ :: _ :: _ :: _ :: _, h2 => simp [PkAtL] at h2
  · rw [if_neg ht] at h1 h2
    have hc : crit = false := by cases crit <;> simp_all
    subst hc
    match ps, h2 with
    | [q0, q1], h2 =>
      simp only [List.nil_append, PkAtL, PkAt, and_true] at h2
      obtain ⟨⟨v0, a0, b0⟩, ⟨v1, a1, b1⟩⟩ := h2
      rw [b0.str] at a0
      rw [b1.str] at a1
      exact decode2 w S p q0 q1 _ kd vl rest hk h1 a0 a1
    | [], h2 => simp [PkAtL] at h2
    | [_], h2 => simp [PkAtL] at h2
    | _ :: _ :: _ :: _, h2 => simp [PkAtL] at h2

end Go.Proofs.YtocjfcgailkfjaaGreatDoor
end

section
namespace Go.Proofs.YtocjfcgailkfjaaGreatDoor
open Go.RowKit

/-- The cells of a control as plain data, of kind 0. -/
def ctl12 (kd : List UInt8) (crit : Bool) (vl : List UInt8) : List Value := [.int .i64 0, .string (strOf kd), .bool crit, .bool false, .int .i64 0, .int .i64 0, .int .i64 0, .string ⟨#[]⟩, .string (strOf vl), .string ⟨#[]⟩, .slice none 0 0, .slice none 0 0]

theorem type_method (a : Addr) (w : World) : (method 540 203 (.pointer (some a)) "GetControlType").run Tryz.prog w = .ok (250, .pointer (some a)) w := by kernel_rfl
theorem type_ahead (a : Addr) (w : World) : (nilAhead 540 203 (.pointer (some a)) "GetControlType").run Tryz.prog w = .ok (some false) w := by kernel_rfl
theorem assert_ctl (v : Value) (w : World) : (Instr.typeAssert (.iface 203 v) 128 203 true).run Tryz.prog w = .ok (.tuple #[v, .bool true]) w := by kernel_rfl

set_option maxHeartbeats 400000 in
set_option maxRecDepth 100000 in
theorem getType_any (w : World) (g : Nat) (kd vl : List UInt8) (crit : Bool) (h : w.heap[g]? = some (.cells #[.string (strOf kd), .bool crit, .string (strOf vl)] 259 (0, 0))) :
    Calls Tryz.prog 250 #[.pointer (some ⟨g, 0, none⟩)] w fun e w' => e = .returned (.string (strOf kd)) ∧ w = w' := by
  have c0 := Lib.cell_of_heap h
  clear h
  go_enter Tryz.func250, Tryz.ntmps250
  go_wp2_with fail
  go_ret
  exact ⟨rfl, rfl⟩

set_option maxHeartbeats 1000000 in
set_option maxRecDepth 100000 in
theorem backControl_any (w : World) (g : Nat) (kd vl : List UInt8) (crit : Bool) (h : w.heap[g]? = some (.cells #[.string (strOf kd), .bool crit, .string (strOf vl)] 259 (0, 0))) :
    Calls Tryz.prog 56 #[.iface 203 (.pointer (some ⟨g, 0, none⟩))] w fun e w' => e = .returned (.agg (ctl12 kd crit vl).toArray) ∧ Ext none_ w w' := by
  have hm := type_method
  have ha := type_ahead
  have ta := assert_ctl
  go_enter Tryz.func56, Tryz.ntmps56
  go_wp2_with fail
  have E1 := (Ext.refl none_ w).alloc (.cells #[.int .i64 0, .string ⟨#[]⟩, .bool false, .bool false, .int .i64 0, .int .i64 0, .int .i64 0, .string ⟨#[]⟩, .string ⟨#[]⟩, .string ⟨#[]⟩, .slice none 0 0, .slice none 0 0] 65)
  refine (getType_any _ g kd vl crit (E1.get h (fun h => h))).mono ?_
  rintro e w1 ⟨rfl, rfl⟩
  clear hm ha
  go_wp2_with fail
  have h2 := two_new w (.cells #[.int .i64 0, .string ⟨#[]⟩, .bool false, .bool false, .int .i64 0, .int .i64 0, .int .i64 0, .string ⟨#[]⟩, .string ⟨#[]⟩, .string ⟨#[]⟩, .slice none 0 0, .slice none 0 0] 65 (0, 0)) (.cells #[.int .i64 (-1), .string (strOf kd), .bool false, .bool false, .int .i64 0, .int .i64 0, .int .i64 0, .string ⟨#[]⟩, .string ⟨#[]⟩, .string ⟨#[]⟩, .slice none 0 0, .slice none 0 0] 65 (0, 0))
  refine cutW (fun W => W.heap[w.heap.size]? = some (.cells #[.int .i64 0, .string ⟨#[]⟩, .bool false, .bool false, .int .i64 0, .int .i64 0, .int .i64 0, .string ⟨#[]⟩, .string ⟨#[]⟩, .string ⟨#[]⟩, .slice none 0 0, .slice none 0 0] 65 (0, 0)) ∧ W.heap[w.heap.size + 1]? = some (.cells #[.int .i64 (-1), .string (strOf kd), .bool false, .bool false, .int .i64 0, .int .i64 0, .int .i64 0, .string ⟨#[]⟩, .string ⟨#[]⟩, .string ⟨#[]⟩, .slice none 0 0, .slice none 0 0] 65 (0, 0)) ∧ Ext none_ w W) h2 ?_
  clear h2 E1 ta
  rintro W ⟨k0, k1, E1⟩
  have hg := E1.get h (fun h => h)
  have hgl := lt_of_block h
  have c0 := Lib.cell_of_heap k0
  have c1 := Lib.cell_of_heap k1
  have c2 := Lib.cell_of_heap hg
  have f1 := Lib.frozen_of_heap k1
  have f0 := Lib.frozen_of_heap k0
  have hne : ¬ g = w.heap.size + 1 := by omega
  go_region
  go_wp2_with fail
  clear c0 c1 c2 f1 f0
  have kA : (((W.setCell ⟨w.heap.size + 1, 0, none⟩ (.int .i64 0)).setCell ⟨w.heap.size + 1, 2, none⟩ (.bool crit)).setCell ⟨w.heap.size + 1, 8, none⟩ (.string (strOf vl))).heap[w.heap.size]? = _ := heap_set_ne (heap_set_ne (heap_set_ne k0 (by omega)) (by omega)) (by omega)
  have K := heap_set (heap_set (heap_set (heap_set (heap_set (heap_set (heap_set (heap_set (heap_set (heap_set (heap_set (heap_set (kA) (i := 0) (.int .i64 0)) (i := 1) (.string (strOf kd))) (i := 2) (.bool crit)) (i := 3) (.bool false)) (i := 4) (.int .i64 0)) (i := 5) (.int .i64 0)) (i := 6) (.int .i64 0)) (i := 7) (.string ⟨#[]⟩)) (i := 8) (.string (strOf vl))) (i := 9) (.string ⟨#[]⟩)) (i := 10) (.slice none 0 0)) (i := 11) (.slice none 0 0)
  have ck := Lib.cell_of_heap K
  refine bodyPost_ret (v := .agg (ctl12 kd crit vl).toArray) (by simp [results, Tryz.results56, go_sem, ck, ctl12]) rfl ⟨rfl, ?_⟩
  refine Ext.drew ?_
  repeat refine Ext.setAt ?_ (.inl (by omega)) _
  exact E1

end Go.Proofs.YtocjfcgailkfjaaGreatDoor
end
