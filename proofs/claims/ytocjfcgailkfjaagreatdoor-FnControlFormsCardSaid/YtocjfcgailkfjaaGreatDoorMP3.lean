/- FnControlForms: the walk. -/
import Derived.Test.YtocjfcgailkfjaaGreatDoorMP1
import Derived.Test.YtocjfcgailkfjaaGreatDoorMP2
import Derived.Test.YtocjfcgailkfjaaGreatDoorMO5
import Derived.Test.YtocjfcgailkfjaaGreatDoorMI1
import Derived.Test.YtocjfcgailkfjaaGreatDoorMN1

set_option linter.unusedVariables false
set_option linter.unusedSimpArgs false
set_option linter.unusedSectionVars false

section
namespace Go.Proofs.YtocjfcgailkfjaaGreatDoor
open Go.RowKit

set_option maxHeartbeats 4000000 in
set_option maxRecDepth 100000 in
theorem controlForms_any (w : World) (ea : Addr) (k n1 n2 n3 : Int) (ty ck tx id : ByteArray) (cr fl : Bool) (ka ia : Option Addr) (kn kc inn ic : Nat) (lk : List (Bool × List UInt8 × List UInt8)) (li : List (List UInt8)) (ha : Option Addr) (hn hc : Nat) (ch : List UInt8)
    (hE : w.cell? ⟨1, 0, none⟩ = some (.iface 310 (.pointer (some ea)))) (hK : KeyRow w ka kn lk) (hI : StrRow w ia inn li) (hH : ch = [] ∨ ∃ g o, ha = some ⟨g, o, none⟩ ∧ BytesAt w g o ch) (hhl : ch.length = hn)
    (b1 : kn ≤ 9223372036854775807) (b2 : inn ≤ 9223372036854775807) (b3 : hn ≤ 9223372036854775807) :
    Calls Tryz.prog 6 #[.agg #[.int .i64 k, .string ty, .bool cr, .bool fl, .int .i64 n1, .int .i64 n2, .int .i64 n3, .string ck, .string tx, .string id, .slice ka kn kc, .slice ia inn ic], .slice ha hn hc] w (Told w) := by
  have E0 := (Ext.refl none_ w).alloc (.cells #[.int .i64 k, .string ty, .bool cr, .bool fl, .int .i64 n1, .int .i64 n2, .int .i64 n3, .string ck, .string tx, .string id, .slice ka kn kc, .slice ia inn ic] 65)
  have hb0 : (w.alloc (.cells #[.int .i64 k, .string ty, .bool cr, .bool fl, .int .i64 n1, .int .i64 n2, .int .i64 n3, .string ck, .string tx, .string id, .slice ka kn kc, .slice ia inn ic] 65)).heap[w.heap.size]? = _ := heap_new w _
  have h10 : 1 < w.heap.size := by have := World.block_lt_of_cell? w ⟨1, 0, none⟩ hE; simpa using this
  have HE : ∀ W, Ext none_ w W → W.cell? ⟨1, 0, none⟩ = some (.iface 310 (.pointer (some ea))) := fun W E => by rw [E.cell (p := ⟨1, 0, none⟩) h10 (fun h => h)]; exact hE
  have HE' := Lib.hid HE
  have HK := Lib.hid hK
  have HI := Lib.hid hI
  have HH := Lib.hid hH
  have HHL := Lib.hid hhl
  have HB0 := Lib.hid hb0
  clear hE hK hI hH hhl hb0 HE
  go_enter Tryz.func6, Tryz.ntmps6
  go_wp2_with fail
  refine (zzFits12_any _ k n1 n2 n3 ty ck tx id cr fl ka ia kn kc inn ic lk li (HK.out.ext E0) (Ext.str E0 HI.out) b1 b2).mono ?_
  rintro e w1 ⟨⟨b, rfl⟩, E1⟩
  have E01 := E0.trans E1
  have hb1 := E1.get HB0.out (fun h => h)
  have HB1 := Lib.hid hb1
  clear hb1
  cases b
  · go_wp2_with fail
    go_ret
    exact ⟨rfl, E01⟩
  by_cases hbig : hn ≤ 2147483647
  · have hbigi : ¬ (2147483647 : Int) < (hn : Int) := by omega
    have hbigb : decide ((2147483647 : Int) < (hn : Int)) = false := by simp; omega
    have cb := Lib.cell_of_heap HB1.out
    go_wp2_with fail
    refine (known_written _ k n1 n2 n3 ty ck tx id cr fl ka ia kn inn kc ic).mono ?_
    rintro e w2 ⟨y, rfl, hy, E2⟩
    have E02 := E01.trans E2
    have hb2 := E2.get HB1.out (fun h => h)
    clear cb
    cases y
    · clear hy hb2
      go_wp2_with fail
      refine (berAwake_any _ ea (HE'.out _ E02)).mono ?_
      rintro e w9 ⟨rfl, E9⟩
      go_wp2_with fail
      go_ret
      exact ⟨rfl, E02.trans E9⟩
    by_cases h40 : hn ≤ 40
    · have h40i : ¬ (40 : Int) < (hn : Int) := by omega
      have h40b : decide ((40 : Int) < (hn : Int)) = false := by simp; omega
      have HW := Lib.hid (hy (by trivial))
      have cb := Lib.cell_of_heap hb2
      clear hy
      go_wp2_with fail
      refine (HW.out _).mono ?_
      rintro e w3 ⟨kt, tb, tv, tcr, k', num, kd, ck', tx', crit, rfl, hcb, hkl, hvl, HR, E3⟩
      have E03 := E02.trans E3
      obtain ⟨gf, gd, gw, gwire, glen⟩ := ctlw_good kt tb tv tcr hcb hkl hvl
      have HBR := Lib.hid (berReadTop w3 kt tb tv tcr hcb hkl hvl)
      obtain ⟨t, ht⟩ : ∃ t, t = ctlC kt tb tv := ⟨_, rfl⟩
      rw [← ht] at gf gd gw gwire glen HR HBR ⊢
      have HT := Lib.hid ht
      have HRR := Lib.hid HR
      clear cb hb2 ht HR hvl hkl hcb HW
      go_wp2_with fail
      refine HBR.out.mono ?_
      rintro e w4 ⟨v, n, rfl, hlen, hv, E4⟩
      have E04 := E03.trans E4
      obtain ⟨cls, bb, tag, data, sa, sn, sc, rfl⟩ := hv.shape
      have HV := Lib.hid hv
      have hsz : (strOf t.enc).size = n := by rw [strOf_size]; exact hlen.out
      have Ev := (Ext.refl none_ w4).alloc (.cells #[.int .u8 cls, .bool bb, .int .u64 tag, .string data, .slice sa sn sc] 43)
      have hv4 := heap_new w4 (.cells #[.int .u8 cls, .bool bb, .int .u64 tag, .string data, .slice sa sn sc] 43 (0, 0))
      have HV4 := Lib.hid hv4
      have hn130 : n ≤ 130 := by have := hlen.out; omega
      clear hv hv4 HBR
      go_wp2_with fail
      refine (ctlRead_any _ ea t t.enc n hlen (by omega) gd gf gwire (HE'.out _ (E04.trans Ev)) k' num kd ck' tx' crit HRR.out).mono ?_
      rintro e w5 ⟨rfl, E5⟩
      have E05 := (E04.trans Ev).trans E5
      have Ex := (Ext.refl none_ w5).alloc (.cells #[.int .i64 k', .string kd, .bool crit, .bool false, .int .i64 num, .int .i64 0, .int .i64 0, .string ck', .string tx', .string ⟨#[]⟩, .slice none 0 0, .slice none 0 0] 65)
      have hv6 := Ex.get (E5.get HV4.out (fun h => h)) (fun h => h)
      have HX6 := Lib.hid (heap_new w5 (.cells #[.int .i64 k', .string kd, .bool crit, .bool false, .int .i64 num, .int .i64 0, .int .i64 0, .string ck', .string tx', .string ⟨#[]⟩, .slice none 0 0, .slice none 0 0] 65 (0, 0)))
      have cv := Lib.cell_of_heap hv6
      have E06 := E05.trans Ex
      have Evx := (Ev.trans E5).trans Ex
      clear hv6 hsz
      go_wp2_with fail
      refine (berForms_top _ _ _ ha hn hc ch t HHL (by omega) (BerV.frame (fun b hb hl => ⟨Evx.block b hl (fun h => h), hb⟩) _ _ HV.out) (HH.out.imp (fun h => h) fun ⟨g, o, e1, e2⟩ => ⟨g, o, e1, e2.ext E06 (fun h => h)⟩) gd gf gw).mono ?_
      rintro e w6 ⟨wire, rfl, hwire, hwl, E7⟩
      have E07 := E06.trans E7
      clear cv
      go_wp2_with fail
      refine (ctlRead_any _ ea t wire wire.length (Lib.hid rfl) (by omega) gd gf hwire (HE'.out _ E07) k' num kd ck' tx' crit HRR.out).mono ?_
      rintro e w7 ⟨rfl, E8⟩
      have E08 := E07.trans E8
      have hx7 := E8.get (E7.get HX6.out (fun h => h)) (fun h => h)
      have Ey := (Ext.refl none_ w7).alloc (.cells #[.int .i64 k', .string kd, .bool crit, .bool false, .int .i64 num, .int .i64 0, .int .i64 0, .string ck', .string tx', .string ⟨#[]⟩, .slice none 0 0, .slice none 0 0] 65)
      have HX8 := Lib.hid (Ey.get hx7 (fun h => h))
      have HY8 := Lib.hid (heap_new w7 (.cells #[.int .i64 k', .string kd, .bool crit, .bool false, .int .i64 num, .int .i64 0, .int .i64 0, .string ck', .string tx', .string ⟨#[]⟩, .slice none 0 0, .slice none 0 0] 65 (0, 0)))
      have E09 := E08.trans Ey
      clear hx7
      go_wp2_with fail
      refine (berAwake_any _ ea (HE'.out _ E09)).mono ?_
      rintro e w8 ⟨rfl, E10⟩
      have E010 := E09.trans E10
      have hx9 := E10.get HX8.out (fun h => h)
      have hy9 := E10.get HY8.out (fun h => h)
      have cx := Lib.cell_of_heap hx9
      have Ez := (Ext.refl none_ w8).alloc (.cells #[.int .i64 k', .string kd, .bool crit, .bool false, .int .i64 num, .int .i64 0, .int .i64 0, .string ck', .string tx', .string ⟨#[]⟩, .slice none 0 0, .slice none 0 0] 65)
      have cy := Lib.cell_of_heap (Ez.get hy9 (fun h => h))
      have h2 := two_new w8 (.cells #[.int .i64 k', .string kd, .bool crit, .bool false, .int .i64 num, .int .i64 0, .int .i64 0, .string ck', .string tx', .string ⟨#[]⟩, .slice none 0 0, .slice none 0 0] 65 (0, 0)) (.cells #[.int .i64 k', .string kd, .bool crit, .bool false, .int .i64 num, .int .i64 0, .int .i64 0, .string ck', .string tx', .string ⟨#[]⟩, .slice none 0 0, .slice none 0 0] 65 (0, 0))
      clear hx9 hy9
      go_wp2_with fail
      refine (ldapSame_eq _ _ _ k' num kd ck' tx' crit h2.1 h2.2.1).mono ?_
      rintro e w9 ⟨rfl, E11⟩
      have E12 := (E010.trans h2.2.2).trans E11
      clear cx cy h2
      go_wp2_with fail
      go_ret
      exact ⟨rfl, E12⟩
    · have h40i : (40 : Int) < (hn : Int) := by omega
      have h40b : decide ((40 : Int) < (hn : Int)) = true := by simp; omega
      clear hy hb2
      go_wp2_with fail
      refine (berAwake_any _ ea (HE'.out _ E02)).mono ?_
      rintro e w9 ⟨rfl, E9⟩
      go_wp2_with fail
      go_ret
      exact ⟨rfl, E02.trans E9⟩
  · have hbigi : (2147483647 : Int) < (hn : Int) := by omega
    have hbigb : decide ((2147483647 : Int) < (hn : Int)) = true := by simp; omega
    go_wp2_with fail
    go_ret
    exact ⟨rfl, E01⟩

end Go.Proofs.YtocjfcgailkfjaaGreatDoor
end
