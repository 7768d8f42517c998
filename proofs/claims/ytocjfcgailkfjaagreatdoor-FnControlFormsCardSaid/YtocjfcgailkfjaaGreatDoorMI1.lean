/- FnEntryTold: the walk. -/
import Derived.Test.YtocjfcgailkfjaaGreatDoorMJ7
import Derived.Test.YtocjfcgailkfjaaGreatDoorMJ6

set_option linter.unusedVariables false
set_option linter.unusedSimpArgs false
set_option linter.unusedSectionVars false

section
namespace Go.Proofs.YtocjfcgailkfjaaGreatDoor
open Go.RowKit

/-- It is true, and what there was is as it was. -/
def Told (w : World) (e : Ending) (w' : World) : Prop := e = .returned (.bool true) ∧ Ext none_ w w'

set_option maxHeartbeats 2000000 in
set_option maxRecDepth 100000 in
theorem entryTold_any (w : World) (ea : Addr) (id : Int) (name : List UInt8) (aa : Option Addr) (an ac : Nat) (l : List AT) (ca : Option Addr) (cn cc : Nat) (pl : List PCt) (ha : Option Addr) (hn hc : Nat) (ch : List UInt8)
    (hE : w.cell? ⟨1, 0, none⟩ = some (.iface 310 (.pointer (some ea)))) (hA : AttrRow w aa an l) (hC : PCRow w ca cn pl) (hH : ch = [] ∨ ∃ g o, ha = some ⟨g, o, none⟩ ∧ BytesAt w g o ch) (hhl : ch.length = hn)
    (b1 : an ≤ 9223372036854775807) (b2 : cn ≤ 9223372036854775807) (b3 : hn ≤ 9223372036854775807) (b4 : name.length ≤ 9223372036854775807) (b5 : ∀ x ∈ l, x.1.length ≤ 9223372036854775807 ∧ x.2.length ≤ 9223372036854775807 ∧ ∀ v ∈ x.2, v.length ≤ 9223372036854775807) (b6 : ∀ x ∈ pl, x.2.2.2.length ≤ 9223372036854775807) :
    Calls Tryz.prog 3 #[.int .i64 id, .agg #[.string (strOf name), .slice aa an ac], .slice ca cn cc, .slice ha hn hc] w (Told w) := by
  have E0 := (Ext.refl none_ w).alloc (.cells #[.string (strOf name), .slice aa an ac] 24)
  have hb0 : (w.alloc (.cells #[.string (strOf name), .slice aa an ac] 24)).heap[w.heap.size]? = _ := heap_new w _
  have h10 : 1 < w.heap.size := by have := World.block_lt_of_cell? w ⟨1, 0, none⟩ hE; simpa using this
  have HE : ∀ W, Ext none_ w W → W.cell? ⟨1, 0, none⟩ = some (.iface 310 (.pointer (some ea))) := fun W E => by rw [E.cell (p := ⟨1, 0, none⟩) h10 (fun h => h)]; exact hE
  have HE' := Lib.hid HE
  have HA := Lib.hid hA
  have HC := Lib.hid hC
  have HH := Lib.hid hH
  have HHL := Lib.hid hhl
  have HB0 := Lib.hid hb0
  have B5 := Lib.hid b5
  have B6 := Lib.hid b6
  clear hE hA hC hH hhl hb0 b5 b6 HE
  go_enter Tryz.func3, Tryz.ntmps3
  go_wp2_with fail
  refine (zzFits7_any _ (strOf name) aa an ac l (Ext.attr E0 HA.out) b1 (fun x hx => (B5.out x hx).2.1)).mono ?_
  rintro e w1 ⟨⟨b, rfl⟩, E1⟩
  have E01 := E0.trans E1
  cases b
  · go_wp2_with fail
    go_ret
    exact ⟨rfl, E01⟩
  go_wp2_with fail
  refine (zzFits10_any _ ca cn cc pl (HC.out.ext E01) b2).mono ?_
  rintro e w2 ⟨⟨b, rfl⟩, E2⟩
  have E02 := E01.trans E2
  cases b
  · go_wp2_with fail
    go_ret
    exact ⟨rfl, E02⟩
  by_cases hbig : hn ≤ 2147483647
  · have hbigi : ¬ (2147483647 : Int) < (hn : Int) := by omega
    have hbigb : decide ((2147483647 : Int) < (hn : Int)) = false := by simp; omega
    go_wp2_with fail
    refine (ldapControls_any _ ca cn cc pl (HC.out.ext E02) b2 (fun x hx => by have := B6.out x hx; omega)).mono ?_
    rintro e w3 hLC
    rcases hLC with ⟨s5, s6, rfl, E3⟩ | ⟨a5, n5, c5, a6, n6, c6, vs5, rfl, ⟨hp4, hpv⟩, hr5, hv5, hr6, E3⟩
    · have E03 := E02.trans E3
      have hb3 := (E1.trans (E2.trans E3)).get HB0.out (fun h => h)
      have cb := Lib.cell_of_heap hb3
      have HB3 := Lib.hid hb3
      clear hb3
      go_wp2_with fail
      refine (ldapFine_any _ id ha hn hc (by omega)).mono ?_
      rintro e w4 ⟨b, rfl, hf, rfl⟩
      cases b
      · go_wp2_with fail
        refine (berAwake_any _ ea (HE'.out _ E03)).mono ?_
        rintro e w9 ⟨rfl, E9⟩
        go_wp2_with fail
        go_ret
        exact ⟨rfl, (E03).trans E9⟩
      have hfine := hf rfl
      clear hf
      go_wp2_with fail
      refine (entryIs_any _ name aa an ac l (Ext.attr E03 HA.out) (by omega) (fun x hx => ⟨by have := (B5.out x hx).1; omega, fun v hv => by have := (B5.out x hx).2.2 v hv; omega⟩) b1 (fun x hx => (B5.out x hx).2.1)).mono ?_
      rintro e w5 ⟨b, rfl, hi, E5⟩
      have E05 := E03.trans E5
      cases b
      · go_wp2_with fail
        refine (berAwake_any _ ea (HE'.out _ E05)).mono ?_
        rintro e w9 ⟨rfl, E9⟩
        go_wp2_with fail
        go_ret
        exact ⟨rfl, (E05).trans E9⟩
      have hent := hi rfl
      clear hi cb
      go_wp2_with fail
      refine (berAwake_any _ ea (HE'.out _ E05)).mono ?_
      rintro e w9 ⟨rfl, E9⟩
      go_wp2_with fail
      go_ret
      exact ⟨rfl, (E05).trans E9⟩
    · have E03 := E02.trans E3
      have hb3 := (E1.trans (E2.trans E3)).get HB0.out (fun h => h)
      have cb := Lib.cell_of_heap hb3
      have HB3 := Lib.hid hb3
      clear hb3
      go_wp2_with fail
      refine (ldapFine_any _ id ha hn hc (by omega)).mono ?_
      rintro e w4 ⟨b, rfl, hf, rfl⟩
      cases b
      · go_wp2_with fail
        refine (berAwake_any _ ea (HE'.out _ E03)).mono ?_
        rintro e w9 ⟨rfl, E9⟩
        go_wp2_with fail
        go_ret
        exact ⟨rfl, (E03).trans E9⟩
      have hfine := hf rfl
      clear hf
      go_wp2_with fail
      refine (entryIs_any _ name aa an ac l (Ext.attr E03 HA.out) (by omega) (fun x hx => ⟨by have := (B5.out x hx).1; omega, fun v hv => by have := (B5.out x hx).2.2 v hv; omega⟩) b1 (fun x hx => (B5.out x hx).2.1)).mono ?_
      rintro e w5 ⟨b, rfl, hi, E5⟩
      have E05 := E03.trans E5
      cases b
      · go_wp2_with fail
        refine (berAwake_any _ ea (HE'.out _ E05)).mono ?_
        rintro e w9 ⟨rfl, E9⟩
        go_wp2_with fail
        go_ret
        exact ⟨rfl, (E05).trans E9⟩
      have hent := hi rfl
      clear hi cb
      have hb5 := E5.get HB3.out (fun h => h)
      have cb := Lib.cell_of_heap hb5
      have HB5 := Lib.hid hb5
      clear hb5
      go_wp2_with fail
      obtain ⟨hent1, hent2, hent3⟩ := hent
      have hln := HA.out.1
      refine (entryOf_any w5 name aa an ac l (Ext.attr E05 HA.out) (by omega) (fun x hx => by have := (hent3 x hx).2.1; omega)).mono ?_
      rintro e w6 ⟨v, rfl, hbv, E6⟩
      obtain ⟨idn, rfl⟩ := Int.eq_ofNat_of_zero_le hfine.1.1
      have E36 := E5.trans E6
      have hmm : (pl.map fun x => ctlTree (pcX x)) = (pl.map pcX).map ctlTree := by simp [List.map_map, Function.comp_def]
      have hr56 : BerRow w6 (fun x => w.heap.size ≤ x) (.slice a5 n5 c5) vs5 := (Ext.row E36 hr5).frame fun b hb _ => ⟨rfl, Nat.le_trans E02.size hb⟩
      have hv56 : BerVL w6 (fun x => w.heap.size ≤ x) ((pl.map pcX).map ctlTree) vs5 := hmm ▸ BerVL.frame (fun b hb hb2 => ⟨E36.block b hb2 (fun h => h), Nat.le_trans E02.size hb⟩) _ _ hv5
      have hop6 : BerV w6 (fun x => w.heap.size ≤ x) (entryT name l) v := BerV.frame (fun b hb hb2 => ⟨rfl, Nat.le_trans E05.size hb⟩) _ _ hbv
      have E06 := E05.trans E6
      have hgood : ∀ bs : List UInt8, 1 ≤ bs.length → bs.length ≤ 4 → (msgT bs (entryT name l) ((pl.map pcX).map ctlTree)).deep ≤ 800 ∧ (msgT bs (entryT name l) ((pl.map pcX).map ctlTree)).fine ∧ (msgT bs (entryT name l) ((pl.map pcX).map ctlTree)).wt ≤ 50000 := fun bs h1 h4 => msg_good bs _ _ h1 h4 (entry_good name l ⟨hent1, hent2, hent3⟩) (hmm ▸ ctls_good pl hp4 (fun x hx => (hpv x hx).2)) (by rw [List.length_map, List.length_map]; omega)
      have HG := Lib.hid hgood
      have HM := Lib.hid (berMessage_any w6 _ idn (by omega) (entryT name l) v a5 n5 c5 hop6 ((pl.map pcX).map ctlTree) vs5 hr56 hv56 ha hn hc ch HHL.out (by omega) (HH.out.imp id fun ⟨g, o, e, hB⟩ => ⟨g, o, e, hB.ext E06 (fun h => h)⟩) hgood)
      have hr66 := hr6.ext E36
      have HR6 := Lib.hid hr66
      have HENT3 := Lib.hid hent3
      have HPV := Lib.hid hpv
      have HB6 := Lib.hid (E6.get HB5.out (fun h => h))
      obtain ⟨kcls, kb, ktag, kdata, ksa, ksn, ksc, rfl⟩ := hbv.shape
      clear hbv hr5 hv5 hr6 hmm hr56 hv56 hop6 hgood hr66 hent3 hpv cb E36
      go_wp2_with fail
      refine HM.out.mono ?_
      rintro e w7 ⟨wire, rfl, ⟨bs, hbs1, hbs4, hwire, hwl⟩, E7⟩
      have E07 := E06.trans E7
      obtain ⟨g1, g2, g3⟩ := HG.out bs hbs1 hbs4
      have HRD := Lib.hid (entryRead_any w7 ea bs name l (pl.map pcX) (fun x hx => by
        obtain ⟨y, _, rfl⟩ := List.mem_map.1 hx
        exact ⟨_, rfl⟩) (by omega) (fun x hx => by have := (HENT3.out x hx).2.1; omega) (by rw [List.length_map]; omega) wire wire.length (Lib.hid rfl) (by omega) g1 g2 hwire (HE'.out _ E07))
      clear hwire g1 g2 g3 HG HM hwl hbs1 hbs4
      go_wp2_with fail
      refine HRD.out.mono ?_
      rintro e w8 ⟨xa, xn, xc, ga, gn, gc, rfl, hxr, hgr, E8⟩
      have E08 := E07.trans E8
      have E9 := (Ext.refl none_ w8).alloc (.cells #[.string (strOf name), .slice xa xn xc] 37)
      obtain rfl : xn = an := by rw [← hxr.1, hln]
      have hmc : ((pl.map pcX).map Prod.fst).map c12 = (pl.map pcU).map c12 := by simp [List.map_map, Function.comp_def, pcX]
      rw [hmc] at hgr
      have hgn := hgr.at.1
      rw [List.length_map, List.length_map] at hgn
      have hw6 : (pl.map fun x => c12 (pcU x)) = (pl.map pcU).map c12 := by simp [List.map_map, Function.comp_def]
      have hr69 : Row 65 12 (w8.alloc (.cells #[.string (strOf name), .slice xa xn xc] 37)) _ (.slice a6 n6 c6) ((pl.map pcU).map c12) := hw6 ▸ ((HR6.out.ext (E7.trans E8)).ext E9)
      have hn6 := hr69.at.1
      rw [List.length_map, List.length_map] at hn6
      obtain rfl : gn = n6 := by rw [← hgn, hn6]
      have HSAME := Lib.hid (ldapSame_any (w8.alloc (.cells #[.string (strOf name), .slice xa xn xc] 37)) _ _ ga a6 gn gc c6 (pl.map pcU) (hgr.ext E9) hr69 (by omega) (by rw [List.length_map]; exact hn6))
      have hb8 := ((E7.trans E8).trans E9).get HB6.out (fun h => h)
      have cb := Lib.cell_of_heap hb8
      have hx8 : (w8.alloc (.cells #[.string (strOf name), .slice xa xn xc] 37)).heap[w8.heap.size]? = _ := heap_new w8 _
      have HB8 := Lib.hid hb8
      have HX8 := Lib.hid hx8
      have HXR := Lib.hid (Ext.attr E9 hxr)
      have hself : ((strOf name).toList != (strOf name).toList) = false := by simp
      clear hmc hgr hgn hw6 hr69 hn6 hb8 hx8 hxr HRD HR6 HB6 HB5 HB3 hln
      go_wp2_with fail
      refine HSAME.out.mono ?_
      rintro e w10 ⟨rfl, E10⟩
      have E010 : Ext none_ w w10 := (E08.trans E9).trans E10
      clear cb
      have hx10 := E10.get HX8.out (fun h => h)
      have hb10 := E10.get HB8.out (fun h => h)
      have cb := Lib.cell_of_heap hb10
      have cx := Lib.cell_of_heap hx10
      have HX10 := Lib.hid hx10
      have HXR10 := Lib.hid (Ext.attr E10 HXR.out)
      have HAR := Lib.hid (Ext.attr E010 HA.out)
      clear hx10 hb10 HX8 HB8 HXR HSAME E9 E10
      go_wp2_with fail
      clear cb cx
      go_loopw [15, 16, 88] (fun _ _ v88 W => ∃ j, j ≤ xn ∧ v88 = .int .i64 (j : Nat) ∧ Ext none_ w10 W) (fun _ _ v88 _ => xn - (intOf v88).toNat)
      case atStart => exact ⟨0, by omega, rfl, Ext.refl _ _⟩
      case round =>
        obtain ⟨j, hj, rfl, hER⟩ := hrel
        by_cases hlt : j < xn
        · have hji : (j : Int) < (xn : Int) := by omega
          obtain ⟨x, hx⟩ : ∃ x, l[j]? = some x := ⟨l[j]'(by have := HAR.out.1; omega), List.getElem?_eq_getElem _⟩
          have hxr := Ext.attr hER HXR10.out
          have har := Ext.attr hER HAR.out
          obtain ⟨g, o, rfl, hgl, hcells⟩ := har.2.resolve_left (fun e => by rw [e] at hx; simp at hx)
          obtain ⟨g2, o2, rfl, hgl2, hcells2⟩ := hxr.2.resolve_left (fun e => by rw [e] at hx; simp at hx)
          obtain ⟨va, vn, vc, k1, k2, k3⟩ := hcells j x hx
          obtain ⟨ya, yn, yc, p1, p2, p3⟩ := hcells2 j x hx
          obtain rfl : yn = vn := by rw [← k3.1, p3.1]
          have hx11 := hER.get HX10.out (fun h => h)
          have E11 := (Ext.refl none_ wr).alloc (.cells #[.string (strOf x.1), .slice va yn vc] 48)
          have cxA := Lib.cell_of_heap (E11.get hx11 (fun h => h))
          have p1A : (wr.alloc (.cells #[.string (strOf x.1), .slice va yn vc] 48)).cell? ⟨g2, o2 + j * 2, none⟩ = some (.string (strOf x.1)) := by rw [E11.cell (p := ⟨g2, _, none⟩) hgl2 (fun h => h)]; exact p1
          have p2A : (wr.alloc (.cells #[.string (strOf x.1), .slice va yn vc] 48)).cell? ⟨g2, o2 + j * 2 + 1, none⟩ = some (.slice ya yn yc) := by rw [E11.cell (p := ⟨g2, _, none⟩) hgl2 (fun h => h)]; exact p2
          have s1 := Ext.str E11 k3
          have s2 := Ext.str E11 p3
          have hyn : yn ≤ 1000 := by have := (HENT3.out x (List.mem_of_getElem? hx)).2.1; rw [k3.1] at this; omega
          have HQ : Hid (∀ k, Calls Tryz.prog 17 #[.slice ya yn yc, .slice va yn vc] ((wr.alloc (.cells #[.string (strOf x.1), .slice va yn vc] 48)).drewN k) fun e w'' => e = .returned (.bool true) ∧ ∃ m, w'' = (wr.alloc (.cells #[.string (strOf x.1), .slice va yn vc] 48)).drewN m) :=
            Lib.hid fun k => Calls.quiet_of (equalStrs_any ((wr.alloc (.cells #[.string (strOf x.1), .slice va yn vc] 48)).drewN k) ya va yn yc vc x.2 s2 s1 hyn)
          clear hx hxr har hcells hcells2 k3 p3 hx11 s1 s2 p1 p2
          go_wp2_with fail
          go_quiet ((go_at_call 17; exact HQ.out _))
          go_wp2_with fail
          go_roundw
          case rel => exact ⟨j + 1, by omega, by go_num, (hER.trans E11).drewN _⟩
          case measure => simp [intOf]; omega
        · have hji : ¬ (j : Int) < (xn : Int) := by omega
          go_wp2_with fail
          refine (berAwake_any _ ea (HE'.out _ (E010.trans hER))).mono ?_
          rintro e w12 ⟨rfl, E12⟩
          go_wp2_with fail
          go_ret
          exact ⟨rfl, (E010.trans hER).trans E12⟩
  · have hbigi : (2147483647 : Int) < (hn : Int) := by omega
    have hbigb : decide ((2147483647 : Int) < (hn : Int)) = true := by simp; omega
    go_wp2_with fail
    go_ret
    exact ⟨rfl, E02⟩

end Go.Proofs.YtocjfcgailkfjaaGreatDoor
end
