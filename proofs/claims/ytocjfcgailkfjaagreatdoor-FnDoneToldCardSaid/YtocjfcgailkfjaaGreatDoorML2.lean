/- GetLDAPError of an answer. CodeOf and the error's code. ReferralOf: some text. -/
import Derived.Test.YtocjfcgailkfjaaGreatDoorML1
import Derived.BigQuiet

set_option linter.unusedVariables false
set_option linter.unusedSimpArgs false
set_option linter.unusedSectionVars false

section
namespace Go.Proofs.YtocjfcgailkfjaaGreatDoor
open Go.RowKit

/-- A part of an answer: no referral, or one with a text. -/
def RefCh (w : World) (S : Nat → Prop) (r : Nat) : Prop :=
  (∃ tag val b, PkOwn w S r 0 0 tag val b [] ∧ tag ≠ 3 ∧ tag ≠ 19 ∧ tag < 31) ∨ (∃ b us u s b2, PkOwn w S r 128 32 3 .nilIface b us ∧ us[0]? = some u ∧ PkOwn w S u 0 0 4 (.iface 9 (.string s)) b2 [])
theorem RefCh.ext {w w' : World} {S : Nat → Prop} {r : Nat} (h : RefCh w S r) (E : Ext none_ w w') : RefCh w' S r :=
  h.imp (fun ⟨a, b, c, d, e⟩ => ⟨a, b, c, d.ext E, e⟩) (fun ⟨a, b, c, d, e, f, g, k⟩ => ⟨a, b, c, d, e, f.ext E, g, k.ext E⟩)
theorem RefCh.desc {w w' : World} {S S' : Nat → Prop} {r : Nat} (h : RefCh w S r) (D : Desc S' w w') : RefCh w' S r :=
  h.imp (fun ⟨a, b, c, d, e⟩ => ⟨a, b, c, d.desc D, e⟩) (fun ⟨a, b, c, d, e, f, g, k⟩ => ⟨a, b, c, d, e, f.desc D, g, k.desc D⟩)

/-- A message with an answer, as its packets hold it. -/
def AnsPk (w : World) (S : Nat → Prop) (p code : Nat) (m t : List UInt8) : Prop :=
  ∃ enc ps q1 enc2 kind, ∃ rs : List Nat, ∃ r0 r1 r2 b0 b1 b2 n k, PkOwn w S p 0 32 16 .nilIface enc ps ∧ ps.length = n ∧ 2 ≤ n ∧ n ≤ 100000 ∧ ps[1]? = some q1 ∧ PkOwn w S q1 64 32 kind .nilIface enc2 rs ∧ rs.length = k ∧ 3 ≤ k ∧ k ≤ 100000 ∧ rs[0]? = some r0 ∧ rs[1]? = some r1 ∧ rs[2]? = some r2 ∧
    PkOwn w S r0 0 0 10 (.iface 2 (.int .i64 code)) b0 [] ∧ PkOwn w S r1 0 0 4 (.iface 9 (.string (strOf m))) b1 [] ∧ PkOwn w S r2 0 0 4 (.iface 9 (.string (strOf t))) b2 [] ∧ ∀ (j r : Nat), (rs : List Nat)[j]? = some r → RefCh w S r

theorem ValOk.num {n : Nat} {v : Value} (h : ValOk 0 10 [UInt8.ofNat n] v) (hn : n ≤ 127) : v = .iface 2 (.int .i64 n) := by
  rcases h with ⟨_, h, _⟩ | ⟨_, _, h⟩ | ⟨_, h, _⟩ | ⟨h, _⟩
  · omega
  · rw [h]
    have h1 : parseI [UInt8.ofNat n] = (n : Int) := by
      have h2 := parseI_one ⟨n, by omega⟩
      rw [if_pos (show n < 128 by omega)] at h2
      exact h2
    rw [h1]
  · omega
  · exact absurd rfl h

theorem ans_pk {w : World} {S : Nat → Prop} {bs cb m t : List UInt8} {kind code : Nat} {l : List (List UInt8)} {ctls : List T} {p : Nat} (h : PkAt ValOk w S (msgT bs (resT kind cb m t l) ctls) p) (hcb : cb = [UInt8.ofNat code]) (hc : code ≤ 127) : AnsPk w S p code m t := by
  obtain ⟨enc, q0, q1, h1, h2⟩ := msg_parts h
  have hp : ∃ ps, PkOwn w S p 0 32 16 .nilIface enc ps ∧ 2 ≤ ps.length ∧ ps.length ≤ 100000 ∧ ps[1]? = some q1 := by
    rcases h2 with ⟨_, h⟩ | ⟨_, q2, _, _, h, _⟩
    · exact ⟨_, h, by simp, by simp, rfl⟩
    · exact ⟨_, h, by simp, by simp, rfl⟩
  obtain ⟨ps, hp, hp2, hp3, hp1⟩ := hp
  unfold resT PkAt at h1
  obtain ⟨rs, hq, hr⟩ := h1
  have hl := PkAtL.length _ _ hr
  have hlen : 3 ≤ (resK cb m t l).length ∧ (resK cb m t l).length ≤ 4 := by unfold resK; split <;> simp
  obtain ⟨r0, e0, k0⟩ := PkAtL.get _ _ 0 (.prim 0 10 cb) hr (by simp [resK])
  obtain ⟨r1, e1, k1⟩ := PkAtL.get _ _ 1 (.prim 0 4 m) hr (by simp [resK])
  obtain ⟨r2, e2, k2⟩ := PkAtL.get _ _ 2 (.prim 0 4 t) hr (by simp [resK])
  unfold PkAt at k0 k1 k2
  obtain ⟨v0, k0, o0⟩ := k0
  obtain ⟨v1, k1, o1⟩ := k1
  obtain ⟨v2, k2, o2⟩ := k2
  subst hcb
  rw [o0.num hc] at k0
  rw [o1.str] at k1
  rw [o2.str] at k2
  refine ⟨enc, ps, q1, _, kind, rs, r0, r1, r2, _, _, _, _, _, hp, rfl, hp2, hp3, hp1, hq, rfl, by omega, by omega, e0, e1, e2, k0, k1, k2, fun j r hj => ?_⟩
  have hjl : j < rs.length := (List.getElem?_eq_some_iff.1 hj).1
  by_cases h3 : j < 3
  · have hj3 : j = 0 ∨ j = 1 ∨ j = 2 := by omega
    rcases hj3 with rfl | rfl | rfl
    · obtain rfl := Option.some.inj (e0.symm.trans hj)
      exact .inl ⟨_, _, _, k0, by omega, by omega, by omega⟩
    · obtain rfl := Option.some.inj (e1.symm.trans hj)
      exact .inl ⟨_, _, _, k1, by omega, by omega, by omega⟩
    · obtain rfl := Option.some.inj (e2.symm.trans hj)
      exact .inl ⟨_, _, _, k2, by omega, by omega, by omega⟩
  · have hne : l ≠ [] := fun e => by
      rw [e] at hl
      simp [resK] at hl
      omega
    have hj3 : j = 3 := by omega
    subst hj3
    match l, hne with
    | x :: l', _ =>
      obtain ⟨r3, e3, k3⟩ := PkAtL.get _ _ 3 (.cons 2 3 ((x :: l').map (T.prim 0 4))) hr (by simp [resK])
      obtain rfl := Option.some.inj (e3.symm.trans hj)
      unfold PkAt at k3
      obtain ⟨us, k3, k4⟩ := k3
      obtain ⟨u, e4, k5⟩ := PkAtL.get _ _ 0 (.prim 0 4 x) k4 (by simp)
      unfold PkAt at k5
      obtain ⟨v5, k5, o5⟩ := k5
      rw [o5.str] at k5
      exact .inr ⟨_, us, u, _, _, k3, e4, k5⟩

theorem AnsPk.ext {w w' : World} {S : Nat → Prop} {p code : Nat} {m t : List UInt8} (h : AnsPk w S p code m t) (E : Ext none_ w w') : AnsPk w' S p code m t := by
  obtain ⟨enc, ps, q1, enc2, kind, rs, r0, r1, r2, b0, b1, b2, n, k, hp, x1, x2, x3, x4, hq, y1, y2, y3, y4, y5, y6, k0, k1, k2, kr⟩ := h
  exact ⟨enc, ps, q1, enc2, kind, rs, r0, r1, r2, b0, b1, b2, n, k, hp.ext E, x1, x2, x3, x4, hq.ext E, y1, y2, y3, y4, y5, y6, k0.ext E, k1.ext E, k2.ext E, fun j r hj => (kr j r hj).ext E⟩
theorem AnsPk.desc {w w' : World} {S S' : Nat → Prop} {p code : Nat} {m t : List UInt8} (h : AnsPk w S p code m t) (D : Desc S' w w') : AnsPk w' S p code m t := by
  obtain ⟨enc, ps, q1, enc2, kind, rs, r0, r1, r2, b0, b1, b2, n, k, hp, x1, x2, x3, x4, hq, y1, y2, y3, y4, y5, y6, k0, k1, k2, kr⟩ := h
  exact ⟨enc, ps, q1, enc2, kind, rs, r0, r1, r2, b0, b1, b2, n, k, hp.desc D, x1, x2, x3, x4, hq.desc D, y1, y2, y3, y4, y5, y6, k0.desc D, k1.desc D, k2.desc D, fun j r hj => (kr j r hj).desc D⟩

/-- What GetLDAPError gives. -/
def ErrE (w : World) (p code : Nat) (m t : List UInt8) (e : Ending) (w' : World) : Prop :=
  (code = 0 ∧ e = .returned .nilIface ∧ w = w') ∨ (code ≠ 0 ∧ ∃ E N, e = .returned (.iface 294 (.pointer (some ⟨E, 0, none⟩))) ∧ w'.heap[E]? = some (.cells #[.iface 310 (.pointer (some ⟨N, 0, none⟩)), .int .u16 code, .string (strOf m), .pointer (some ⟨p, 0, none⟩)] 298 (0, 0)) ∧ w'.heap[N]? = some (.cells #[.string (strOf t)] 312 (0, 0)) ∧ w.heap.size ≤ E ∧ w.heap.size ≤ N ∧ Ext none_ w w')

set_option maxHeartbeats 2000000 in
set_option maxRecDepth 100000 in
theorem getError_any (w : World) (S : Nat → Prop) (p code : Nat) (m t : List UInt8) (hc : code ≤ 127) (h : AnsPk w S p code m t) :
    Calls Tryz.prog 116 #[.pointer (some ⟨p, 0, none⟩)] w (ErrE w p code m t) := by
  obtain ⟨enc, ps, q1, enc2, kind, rs, r0, r1, r2, b0, b1, b2, n, k, hp, x1, x2, x3, x4, hq, y1, y2, y3, y4, y5, y6, k0, k1, k2, -⟩ := h
  have HP := Lib.hid hp
  have HQ := Lib.hid hq
  have K0 := Lib.hid k0
  have K1 := Lib.hid k1
  have K2 := Lib.hid k2
  have C1 := Lib.hid (packetChildCount_any w S p 0 32 16 _ _ ps hp n x1 2 (-1) ⟨#[76, 68, 65, 80, 32, 114, 101, 115, 112, 111, 110, 115, 101]⟩ (by omega) (by omega) (.inl rfl) x3)
  have C2 := Lib.hid (packetChild_any w S p 0 32 16 _ _ ps 1 q1 1 rfl hp x4)
  have C3 := Lib.hid (packetChildCount_any w S q1 64 32 kind _ _ rs hq k y1 3 (-1) ⟨#[76, 68, 65, 80, 32, 114, 101, 115, 117, 108, 116]⟩ (by omega) (by omega) (.inl rfl) y3)
  have C4 := Lib.hid (packetChild_any w S q1 64 32 kind _ _ rs 0 r0 0 rfl hq y4)
  have C5 := Lib.hid (packetChild_any w S q1 64 32 kind _ _ rs 1 r1 1 rfl hq y5)
  have C6 := Lib.hid (packetChild_any w S q1 64 32 kind _ _ rs 2 r2 2 rfl hq y6)
  have C7 := Lib.hid (packetResultCode_any w S r0 0 0 10 code b0 [] k0 hc)
  have C8 := Lib.hid (packetString_any w S r1 0 0 4 _ _ _ k1)
  obtain ⟨dq, rowq, bvq, gq, chq, dsq, hpq, -⟩ := hq
  have cq := Lib.cell_of_heap hpq
  obtain ⟨d0, row0, bv0, g0, ch0, ds0, hp0, -⟩ := k0
  have c0 := Lib.cell_of_heap hp0
  obtain ⟨d1, row1, bv1, g1, ch1, ds1, hp1, -⟩ := k1
  have c1 := Lib.cell_of_heap hp1
  obtain ⟨d2, row2, bv2, g2, ch2, ds2, hp2, -⟩ := k2
  have c2 := Lib.cell_of_heap hp2
  have w10 : IntKind.u8.wrap (10 : Int) = 10 := by decide
  have w4 : IntKind.u8.wrap (4 : Int) = 4 := by decide
  clear hp hpq hp0 hp1 hp2 x4 y4 y5 y6
  go_enter Tryz.func116, Tryz.ntmps116
  go_wp2_with fail
  refine C1.out.mono ?_
  rintro e w1 ⟨_, _, rfl, rfl⟩
  go_wp2_with fail
  refine C2.out.mono ?_
  rintro e w1 ⟨rfl, rfl⟩
  go_wp2_with fail
  refine C3.out.mono ?_
  rintro e w1 ⟨_, _, rfl, rfl⟩
  go_wp2_with fail
  refine C4.out.mono ?_
  rintro e w1 ⟨rfl, rfl⟩
  go_wp2_with fail
  refine C7.out.mono ?_
  rintro e w1 ⟨rfl, rfl⟩
  by_cases hz : code = 0
  · subst hz
    go_wp2_with fail
    go_ret
    exact .inl ⟨rfl, rfl, rfl⟩
  · have hzi : ¬ (code : Int) = 0 := by omega
    go_wp2_with fail
    refine C5.out.mono ?_
    rintro e w1 ⟨rfl, rfl⟩
    go_wp2_with fail
    refine C6.out.mono ?_
    rintro e w1 ⟨rfl, rfl⟩
    go_wp2_with fail
    refine C8.out.mono ?_
    rintro e w1 ⟨rfl, rfl⟩
    go_wp2_with fail
    refine (zzShown_any _ (strOf t)).mono ?_
    rintro e w1 ⟨rfl, rfl⟩
    go_wp2_with fail
    refine (errorsNew_any _ (strOf t)).mono ?_
    rintro e w1 ⟨rfl, rfl⟩
    go_wp2_with fail
    go_ret
    have h2 := two_new w (.cells #[.string (strOf t)] 312 (0, 0)) (.cells #[.iface 310 (.pointer (some ⟨w.heap.size, 0, none⟩)), .int .u16 code, .string (strOf m), .pointer (some ⟨p, 0, none⟩)] 298 (0, 0))
    exact .inr ⟨hz, w.heap.size + 1, w.heap.size, rfl, h2.2.1, h2.1, by omega, by omega, h2.2.2⟩

end Go.Proofs.YtocjfcgailkfjaaGreatDoor
end

section
namespace Go.Proofs.YtocjfcgailkfjaaGreatDoor
open Go.RowKit

theorem err_method (a : Addr) (w : World) : (method 540 310 (.pointer (some a)) "Error").run Tryz.prog w = .ok (256, .pointer (some a)) w := by kernel_rfl
theorem err_ahead (a : Addr) (w : World) : (nilAhead 540 310 (.pointer (some a)) "Error").run Tryz.prog w = .ok (some false) w := by kernel_rfl
theorem assert_err (v : Value) (w : World) : (Instr.typeAssert (.iface 294 v) 92 294 true).run Tryz.prog w = .ok (.tuple #[v, .bool true]) w := by kernel_rfl

set_option maxHeartbeats 400000 in
set_option maxRecDepth 100000 in
theorem errText_any (w : World) (N : Nat) (s : ByteArray) (h : w.heap[N]? = some (.cells #[.string s] 312 (0, 0))) :
    Calls Tryz.prog 256 #[.pointer (some ⟨N, 0, none⟩)] w fun e w' => e = .returned (.string s) ∧ w = w' := by
  have c0 := Lib.cell_of_heap h
  clear h
  go_enter Tryz.func256, Tryz.ntmps256
  go_wp2_with fail
  go_ret
  exact ⟨rfl, rfl⟩

set_option maxHeartbeats 400000 in
set_option maxRecDepth 100000 in
theorem codeOf_nil (w : World) : Calls Tryz.prog 67 #[.nilIface] w fun e w' => e = .returned (.tuple #[.int .i64 0, .string ⟨#[]⟩, .string ⟨#[]⟩]) ∧ w = w' := by
  go_enter Tryz.func67, Tryz.ntmps67
  go_wp2_with fail
  go_ret3
  exact ⟨rfl, rfl⟩

set_option maxHeartbeats 1000000 in
set_option maxRecDepth 100000 in
theorem codeOf_any (w : World) (E N p code : Nat) (m t : List UInt8) (hc : code ≤ 127) (h1 : w.heap[E]? = some (.cells #[.iface 310 (.pointer (some ⟨N, 0, none⟩)), .int .u16 code, .string (strOf m), .pointer (some ⟨p, 0, none⟩)] 298 (0, 0))) (h2 : w.heap[N]? = some (.cells #[.string (strOf t)] 312 (0, 0))) :
    Calls Tryz.prog 67 #[.iface 294 (.pointer (some ⟨E, 0, none⟩))] w fun e w' => e = .returned (.tuple #[.int .i64 code, .string (strOf m), .string (strOf t)]) ∧ Same w w' := by
  have hm := err_method
  have ha := err_ahead
  have ta := assert_err
  have c0 := Lib.cell_of_heap h1
  have H2 := Lib.hid h2
  have hw : IntKind.i64.wrap (code : Int) = (code : Int) := IntWalk.i64_in _ (by omega)
  clear h1 h2
  go_enter Tryz.func67, Tryz.ntmps67
  go_wp2_with fail
  refine (errText_any _ N (strOf t) H2.out).mono ?_
  rintro e w1 ⟨rfl, rfl⟩
  clear hm ha
  go_wp2_with fail
  go_quiet (fail)
  go_wp2_with fail
  go_ret3
  exact ⟨rfl, Same.of _⟩

end Go.Proofs.YtocjfcgailkfjaaGreatDoor
end

section
namespace Go.Proofs.YtocjfcgailkfjaaGreatDoor
open Go.RowKit

/-- An error of GetLDAPError, or none. -/
def ErrAt (w : World) (code : Nat) (m t : List UInt8) (v : Value) : Prop :=
  (code = 0 ∧ v = .nilIface) ∨ (code ≠ 0 ∧ ∃ E N p, v = .iface 294 (.pointer (some ⟨E, 0, none⟩)) ∧ w.heap[E]? = some (.cells #[.iface 310 (.pointer (some ⟨N, 0, none⟩)), .int .u16 code, .string (strOf m), .pointer (some ⟨p, 0, none⟩)] 298 (0, 0)) ∧ w.heap[N]? = some (.cells #[.string (strOf t)] 312 (0, 0)))

set_option maxHeartbeats 400000 in
set_option maxRecDepth 100000 in
theorem anyOf_nil (w : World) (a : Option Addr) (n c : Nat) : Calls Tryz.prog 164 #[.nilIface, .slice a n c] w fun e w' => e = .returned (.bool false) ∧ w = w' := by
  go_enter Tryz.func164, Tryz.ntmps164
  go_wp2_with fail
  go_ret
  exact ⟨rfl, rfl⟩

set_option maxHeartbeats 1000000 in
set_option maxRecDepth 100000 in
theorem anyOf_one (w : World) (E g k code : Nat) (x m pp : Value) (hE : w.heap[E]? = some (.cells #[x, .int .u16 code, m, pp] 298 (0, 0))) (hg : w.heap[g]? = some (.cells #[.int .u16 k] 296 (0, 0))) :
    Calls Tryz.prog 164 #[.iface 294 (.pointer (some ⟨E, 0, none⟩)), .slice (some ⟨g, 0, none⟩) 1 1] w fun e w' => e = .returned (.bool (decide (code = k))) ∧ w = w' := by
  have ta := assert_err
  have cE := Lib.cell_of_heap hE
  have cg := Lib.cell_of_heap hg
  clear hE hg
  go_enter Tryz.func164, Tryz.ntmps164
  by_cases hk : code = k
  · subst hk
    go_wp2_with fail
    go_loop [20] (fun v20 => v20 = .int .i64 0) (fun _ => 1)
    case atStart => rfl
    case round =>
      subst hrel
      go_wp2_with fail
      go_ret
      exact ⟨by simp, rfl⟩
  · have hki : ¬ (code : Int) = (k : Int) := by omega
    go_wp2_with fail
    go_loop [20] (fun v20 => ∃ j, j ≤ 1 ∧ v20 = .int .i64 (j : Nat)) (fun v20 => 1 - (intOf v20).toNat)
    case atStart => exact ⟨0, by omega, rfl⟩
    case round =>
      obtain ⟨j, hj, rfl⟩ := hrel
      have hj2 : j = 0 ∨ j = 1 := by omega
      rcases hj2 with rfl | rfl
      · go_wp2_with fail
        go_round
        case rel => exact ⟨1, by omega, by go_num⟩
        case measure => simp [intOf]
      · go_wp2_with fail
        go_ret
        exact ⟨by simp [hk], rfl⟩

set_option maxHeartbeats 400000 in
set_option maxRecDepth 100000 in
theorem withCode_any (w : World) (code k : Nat) (m t : List UInt8) (v : Value) (h : ErrAt w code m t v) :
    Calls Tryz.prog 146 #[v, .int .u16 k] w fun e w' => (∃ b, e = .returned (.bool b)) ∧ Ext none_ w w' := by
  have E1 := (Ext.refl none_ w).alloc (.cells #[.int .u16 k] 296)
  have h1 : (w.alloc (.cells #[.int .u16 k] 296)).heap[w.heap.size]? = _ := heap_new w _
  rcases h with ⟨_, rfl⟩ | ⟨_, E, N, p, rfl, hE, hN⟩
  · go_enter Tryz.func146, Tryz.ntmps146
    go_wp2_with fail
    refine (anyOf_nil _ _ 1 1).mono ?_
    rintro e w1 ⟨rfl, rfl⟩
    go_wp2_with fail
    go_ret
    exact ⟨⟨_, rfl⟩, E1⟩
  · have H := Lib.hid (anyOf_one _ E w.heap.size k code _ _ _ (E1.get hE (fun h => h)) h1)
    clear hE hN h1
    go_enter Tryz.func146, Tryz.ntmps146
    go_wp2_with fail
    refine H.out.mono ?_
    rintro e w1 ⟨rfl, rfl⟩
    go_wp2_with fail
    go_ret
    exact ⟨⟨_, rfl⟩, E1⟩

/-- Some text; what there was is as it was. -/
def SomeS (w : World) (e : Ending) (w' : World) : Prop := (∃ s, e = .returned (.string s)) ∧ Ext none_ w w'

set_option maxHeartbeats 2000000 in
set_option maxRecDepth 100000 in
theorem getReferral_any (w : World) (S : Nat → Prop) (p code cc : Nat) (m t m' t' : List UInt8) (v : Value) (hv : ErrAt w cc m' t' v) (h : AnsPk w S p code m t) :
    Calls Tryz.prog 117 #[v, .pointer (some ⟨p, 0, none⟩)] w (SomeS w) := by
  have HW := Lib.hid (withCode_any w cc 10 m' t' v hv)
  have HA := Lib.hid h
  clear hv h
  go_enter Tryz.func117, Tryz.ntmps117
  go_wp2_with fail
  refine HW.out.mono ?_
  rintro e w1 ⟨⟨b, rfl⟩, E1⟩
  cases b
  · go_wp2_with fail
    go_ret
    exact ⟨⟨_, rfl⟩, E1⟩
  obtain ⟨enc, ps, q1, enc2, kind, rs, r0, r1, r2, b0, b1, b2, n, k, hp, x1, x2, x3, x4, hq, y1, y2, y3, y4, y5, y6, k0, k1, k2, kr⟩ := HA.out.ext E1
  have C2 := Lib.hid (packetChild_any w1 S p 0 32 16 _ _ ps 1 q1 1 rfl hp x4)
  have C3 := Lib.hid (packetChildCount_any w1 S q1 64 32 kind _ _ rs hq k y1 1 (-1) ⟨#[114, 101, 102, 101, 114, 114, 97, 108]⟩ (by omega) (by omega) (.inl rfl) y3)
  obtain ⟨dq, rowq, bvq, gq, chq, dsq, hpq, -, hchq, -⟩ := hq
  obtain ⟨capq, curq, rfl, hgq, -, hlcq, hcmq, hcurq⟩ := hchq
  rw [y1] at hpq hlcq
  have cq := Lib.cell_of_heap hpq
  have HCQ := Lib.hid hcurq
  have HGQ := Lib.hid hgq
  have HY1 := Lib.hid y1
  have KR := Lib.hid kr
  unfold maxLen at hcmq
  clear hpq hgq hcurq y1 y4 y5 y6 k0 k1 k2 kr hp x1 x4
  go_wp2_with fail
  refine C2.out.mono ?_
  rintro e w2 ⟨rfl, rfl⟩
  go_wp2_with fail
  refine C3.out.mono ?_
  rintro e w2 ⟨_, _, rfl, rfl⟩
  go_wp2_with fail
  clear cq
  go_loop [51] (fun v51 => ∃ j, j ≤ k ∧ v51 = .int .i64 (j : Nat)) (fun v51 => k - (intOf v51).toNat)
  case atStart => exact ⟨0, by omega, rfl⟩
  case round =>
    obtain ⟨j, hj, rfl⟩ := hrel
    by_cases hlt : j < k
    · have hji : (j : Int) < (k : Int) := by omega
      obtain ⟨r, hr⟩ : ∃ r, rs[j]? = some r := ⟨rs[j]'(by have := HY1.out; omega), List.getElem?_eq_getElem _⟩
      have hc1 : w1.cell? ⟨gq, j, none⟩ = some (.pointer (some ⟨r, 0, none⟩)) := by
        rw [Lib.cell_of_heap HGQ.out]; exact HCQ.out j r hr
      rcases KR.out j r hr with ⟨tag, val, bb, hR, t1, t2, t3⟩ | ⟨bb, us, u, s, bb2, hR, hu, hU⟩
      · obtain ⟨dr, rowr, bvr, gr, chr, dsr, hpr, -⟩ := hR
        have cr := Lib.cell_of_heap hpr
        have t1i : ¬ (tag : Int) = 3 := by omega
        have t2i : ¬ (tag : Int) = 19 := by omega
        clear hpr hr
        go_wp2_with fail
        go_round
        case rel => exact ⟨j + 1, by omega, by go_num⟩
        case measure => simp [intOf]; omega
      · have C4 := Lib.hid (packetChild_any w1 S r 128 32 3 _ _ us 0 u 0 rfl hR hu)
        have C5 := Lib.hid (packetString_any w1 S u 0 0 4 _ _ _ hU)
        obtain ⟨dr, rowr, bvr, gr, chr, dsr, hpr, -⟩ := hR
        have cr := Lib.cell_of_heap hpr
        clear hpr hr hU hu
        go_wp2_with fail
        refine C4.out.mono ?_
        rintro e w2 ⟨rfl, rfl⟩
        go_wp2_with fail
        refine C5.out.mono ?_
        rintro e w2 ⟨rfl, rfl⟩
        go_wp2_with fail
        go_ret
        exact ⟨⟨_, rfl⟩, E1⟩
    · have hji : ¬ (j : Int) < (k : Int) := by omega
      go_wp2_with fail
      go_ret
      exact ⟨⟨_, rfl⟩, E1⟩

set_option maxHeartbeats 400000 in
set_option maxRecDepth 100000 in
theorem referralOf_any (w : World) (S : Nat → Prop) (p code cc : Nat) (m t m' t' : List UInt8) (v : Value) (hv : ErrAt w cc m' t' v) (h : AnsPk w S p code m t) :
    Calls Tryz.prog 68 #[v, .pointer (some ⟨p, 0, none⟩)] w (SomeS w) := by
  have H := Lib.hid (getReferral_any w S p code cc m t m' t' v hv h)
  clear hv h
  go_enter Tryz.func68, Tryz.ntmps68
  go_wp2_with fail
  refine H.out.mono ?_
  rintro e w1 ⟨⟨s, rfl⟩, E1⟩
  go_wp2_with fail
  go_ret
  exact ⟨⟨_, rfl⟩, E1⟩

end Go.Proofs.YtocjfcgailkfjaaGreatDoor
end
