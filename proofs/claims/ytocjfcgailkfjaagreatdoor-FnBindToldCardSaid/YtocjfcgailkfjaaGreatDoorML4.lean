/- FnBindTold: the walk. -/
import Derived.Test.YtocjfcgailkfjaaGreatDoorML3
import Derived.Test.YtocjfcgailkfjaaGreatDoorMI1
import Derived.Outline

set_option linter.unusedVariables false
set_option linter.unusedSimpArgs false
set_option linter.unusedSectionVars false

section
namespace Go.Proofs.YtocjfcgailkfjaaGreatDoor
open Go.RowKit

theorem res_good (kind : Nat) (cb m t : List UInt8) (l : List (List UInt8)) (hkind : kind < 31) (h1 : 1 ≤ cb.length) (h4 : cb.length ≤ 4) (hm : m.length ≤ 60) (ht : t.length ≤ 60) (hl : l.length ≤ 4) (hs : ∀ s ∈ l, s.length ≤ 60) : Good (resT kind cb m t l) 4 5000 := by
  have hk := GoodL.all (d := 0) (n := 72) (l.map (T.prim 0 4)) (fun x hx => by
    obtain ⟨v, hv, rfl⟩ := List.mem_map.1 hx
    exact Good.octets (n := 60) (hs v hv) (by omega))
  rw [List.length_map] at hk
  have hr : GoodL (if l = [] then [] else [T.cons 2 3 (l.map (T.prim 0 4))]) 1 300 := by
    split
    · exact GoodL.nil _ _
    · exact (GoodL.cons (Good.built (cls := 2) (tag := 3) hk (by omega) (by omega) (.inl (by omega)) (by omega) (by rw [List.length_map]; omega)) (GoodL.nil 1 0)).mono (by omega) (by omega)
  have hrl : (if l = [] then [] else [T.cons 2 3 (l.map (T.prim 0 4))]).length ≤ 1 := by split <;> simp
  have h0 : GoodL (resK cb m t l) 1 500 := by
    unfold resK
    exact (GoodL.cons ((Good.small (tag := 10) (.inr (.inr rfl)) h1 (by omega)).mono (Nat.zero_le 1) (Nat.le_refl _)) (GoodL.cons ((Good.octets (n := 60) hm (by omega)).mono (Nat.zero_le 1) (Nat.le_refl _)) (GoodL.cons ((Good.octets (n := 60) ht (by omega)).mono (Nat.zero_le 1) (Nat.le_refl _)) hr))).mono (Nat.le_refl _) (by omega)
  unfold resT
  exact (Good.built h0 (by omega) (by omega) (.inr (by omega)) (by omega) (by unfold resK; simp only [List.cons_append, List.nil_append, List.length_cons]; omega)).mono (by omega) (by omega)

set_option maxHeartbeats 2000000 in
set_option maxRecDepth 100000 in
theorem bindTold_any (w : World) (ea : Addr) (id code : Int) (m t : List UInt8) (aa : Option Addr) (an ac : Nat) (l : List (List UInt8)) (ca : Option Addr) (cn cc : Nat) (pl : List PCt) (ha : Option Addr) (hn hc : Nat) (ch : List UInt8)
    (hE : w.cell? ⟨1, 0, none⟩ = some (.iface 310 (.pointer (some ea)))) (hA : StrRow w aa an l) (hC : PCRow w ca cn pl) (hH : ch = [] ∨ ∃ g o, ha = some ⟨g, o, none⟩ ∧ BytesAt w g o ch) (hhl : ch.length = hn)
    (b1 : an ≤ 9223372036854775807) (b2 : cn ≤ 9223372036854775807) (b3 : hn ≤ 9223372036854775807) (b4 : m.length ≤ 9223372036854775807) (b4' : t.length ≤ 9223372036854775807) (b5 : ∀ x ∈ l, x.length ≤ 9223372036854775807) (b6 : ∀ x ∈ pl, x.2.2.2.length ≤ 9223372036854775807) :
    Calls Tryz.prog 4 #[.int .i64 id, .agg #[.int .i64 code, .string (strOf m), .string (strOf t), .slice aa an ac], .slice ca cn cc, .slice ha hn hc] w (Told w) := by
  have E0 := (Ext.refl none_ w).alloc (.cells #[.int .i64 code, .string (strOf m), .string (strOf t), .slice aa an ac] 53)
  have hb0 : (w.alloc (.cells #[.int .i64 code, .string (strOf m), .string (strOf t), .slice aa an ac] 53)).heap[w.heap.size]? = _ := heap_new w _
  have h10 : 1 < w.heap.size := by have := World.block_lt_of_cell? w ⟨1, 0, none⟩ hE; simpa using this
  have HE : ∀ W, Ext none_ w W → W.cell? ⟨1, 0, none⟩ = some (.iface 310 (.pointer (some ea))) := fun W E => by rw [E.cell (p := ⟨1, 0, none⟩) h10 (fun h => h)]; exact hE
  have HE' := Lib.hid HE
  have HA := Lib.hid hA
  have HC := Lib.hid hC
  have HH := Lib.hid hH
  have HHL := Lib.hid hhl
  have HB0 := Lib.hid hb0
  have B5 := Lib.hid b5
  have B6 := Lib.hid b6
  clear hE hA hC hH hhl hb0 b5 b6 HE
  go_enter Tryz.func4, Tryz.ntmps4
  go_wp2_with fail
  refine (zzFits6_any _ code (strOf m) (strOf t) aa an ac l (Ext.str E0 HA.out) b1).mono ?_
  rintro e w1 ⟨⟨b, rfl⟩, E1⟩
  have E01 := E0.trans E1
  cases b
  · go_wp2_with fail
    go_ret
    exact ⟨rfl, E01⟩
  go_wp2_with fail
  refine (zzFits10_any _ ca cn cc pl (HC.out.ext E01) b2).mono ?_
  rintro e w2 ⟨⟨b, rfl⟩, E2⟩
  have E02 := E01.trans E2
  cases b
  · go_wp2_with fail
    go_ret
    exact ⟨rfl, E02⟩
  by_cases hbig : hn ≤ 2147483647
  · have hbigi : ¬ (2147483647 : Int) < (hn : Int) := by omega
    have hbigb : decide ((2147483647 : Int) < (hn : Int)) = false := by simp; omega
    go_wp2_with fail
    refine (ldapControls_any _ ca cn cc pl (HC.out.ext E02) b2 (fun x hx => by have := B6.out x hx; omega)).mono ?_
    rintro e w3 hLC
    rcases hLC with ⟨s5, s6, rfl, E3⟩ | ⟨a5, n5, c5, a6, n6, c6, vs5, rfl, ⟨hp4, hpv⟩, hr5, hv5, hr6, E3⟩
    · have E03 := E02.trans E3
      have hb3 := (E1.trans (E2.trans E3)).get HB0.out (fun h => h)
      have cb := Lib.cell_of_heap hb3
      have HB3 := Lib.hid hb3
      clear hb3
      go_wp2_with fail
      refine (ldapFine_any _ id ha hn hc (by omega)).mono ?_
      rintro e w4 ⟨b, rfl, hf, rfl⟩
      cases b
      · go_wp2_with fail
        refine (berAwake_any _ ea (HE'.out _ E03)).mono ?_
        rintro e w9 ⟨rfl, E9⟩
        go_wp2_with fail
        go_ret
        exact ⟨rfl, (E03).trans E9⟩
      have hfine := hf rfl
      clear hf
      go_wp2_with fail
      refine (resultIs_any _ code m t aa an ac l (Ext.str E03 HA.out) b4 b4' B5.out b1).mono ?_
      rintro e w5 ⟨b, rfl, hi, E5⟩
      have E05 := E03.trans E5
      clear cb
      cases b
      · go_wp2_with fail
        refine (berAwake_any _ ea (HE'.out _ E05)).mono ?_
        rintro e w9 ⟨rfl, E9⟩
        go_wp2_with fail
        go_ret
        exact ⟨rfl, (E05).trans E9⟩
      go_wp2_with fail
      refine (berAwake_any _ ea (HE'.out _ E05)).mono ?_
      rintro e w9 ⟨rfl, E9⟩
      go_wp2_with fail
      go_ret
      exact ⟨rfl, (E05).trans E9⟩
    · have E03 := E02.trans E3
      have hb3 := (E1.trans (E2.trans E3)).get HB0.out (fun h => h)
      have cb := Lib.cell_of_heap hb3
      have HB3 := Lib.hid hb3
      clear hb3
      go_wp2_with fail
      refine (ldapFine_any _ id ha hn hc (by omega)).mono ?_
      rintro e w4 ⟨b, rfl, hf, rfl⟩
      cases b
      · go_wp2_with fail
        refine (berAwake_any _ ea (HE'.out _ E03)).mono ?_
        rintro e w9 ⟨rfl, E9⟩
        go_wp2_with fail
        go_ret
        exact ⟨rfl, (E03).trans E9⟩
      have hfine := hf rfl
      clear hf
      go_wp2_with fail
      refine (resultIs_any _ code m t aa an ac l (Ext.str E03 HA.out) b4 b4' B5.out b1).mono ?_
      rintro e w5 ⟨b, rfl, hi, E5⟩
      have E05 := E03.trans E5
      cases b
      · clear cb
        go_wp2_with fail
        refine (berAwake_any _ ea (HE'.out _ E05)).mono ?_
        rintro e w9 ⟨rfl, E9⟩
        go_wp2_with fail
        go_ret
        exact ⟨rfl, (E05).trans E9⟩
      obtain ⟨⟨hres1, hres2⟩, hresm, hrest, hresl, hress⟩ := hi rfl
      clear hi cb
      obtain ⟨code, rfl⟩ := Int.eq_ofNat_of_zero_le hres1
      have hb5 := E5.get HB3.out (fun h => h)
      have cb := Lib.cell_of_heap hb5
      have HB5 := Lib.hid hb5
      clear hb5
      go_wp2_with fail
      have hln := HA.out.1
      refine (ldapAnswer_any w5 1 code (by omega) m t aa an ac l (Ext.str E05 HA.out) (by omega)).mono ?_
      rintro e w6 ⟨v, cb6, rfl, ⟨hcb1, hcb4, hcb⟩, hbv, E6⟩
      have HCB := Lib.hid (hcb (by omega))
      obtain ⟨idn, rfl⟩ := Int.eq_ofNat_of_zero_le hfine.1.1
      have E36 := E5.trans E6
      have hmm : (pl.map fun x => ctlTree (pcX x)) = (pl.map pcX).map ctlTree := by simp [List.map_map, Function.comp_def]
      have hr56 : BerRow w6 (fun x => w.heap.size ≤ x) (.slice a5 n5 c5) vs5 := (Ext.row E36 hr5).frame fun b hb _ => ⟨rfl, Nat.le_trans E02.size hb⟩
      have hv56 : BerVL w6 (fun x => w.heap.size ≤ x) ((pl.map pcX).map ctlTree) vs5 := hmm ▸ BerVL.frame (fun b hb hb2 => ⟨E36.block b hb2 (fun h => h), Nat.le_trans E02.size hb⟩) _ _ hv5
      have hop6 : BerV w6 (fun x => w.heap.size ≤ x) (resT 1 cb6 m t l) v := BerV.frame (fun b hb hb2 => ⟨rfl, Nat.le_trans E05.size hb⟩) _ _ hbv
      have E06 := E05.trans E6
      have hgood : ∀ bs : List UInt8, 1 ≤ bs.length → bs.length ≤ 4 → (msgT bs (resT 1 cb6 m t l) ((pl.map pcX).map ctlTree)).deep ≤ 800 ∧ (msgT bs (resT 1 cb6 m t l) ((pl.map pcX).map ctlTree)).fine ∧ (msgT bs (resT 1 cb6 m t l) ((pl.map pcX).map ctlTree)).wt ≤ 50000 := fun bs h1 h4 => msg_good bs _ _ h1 h4 (res_good 1 cb6 m t l (by omega) hcb1 hcb4 hresm hrest hresl hress) (hmm ▸ ctls_good pl hp4 (fun x hx => (hpv x hx).2)) (by rw [List.length_map, List.length_map]; omega)
      have HG := Lib.hid hgood
      have HM := Lib.hid (berMessage_any w6 _ idn (by omega) (resT 1 cb6 m t l) v a5 n5 c5 hop6 ((pl.map pcX).map ctlTree) vs5 hr56 hv56 ha hn hc ch HHL.out (by omega) (HH.out.imp id fun ⟨g, o, e, hB⟩ => ⟨g, o, e, hB.ext E06 (fun h => h)⟩) hgood)
      have hr66 := hr6.ext E36
      have HR6 := Lib.hid hr66
      have HPV := Lib.hid hpv
      have HB6 := Lib.hid (E6.get HB5.out (fun h => h))
      obtain ⟨kcls, kb, ktag, kdata, ksa, ksn, ksc, rfl⟩ := hbv.shape
      clear hbv hr5 hv5 hr6 hmm hr56 hv56 hop6 hgood hr66 hpv cb E36 hcb
      go_wp2_with fail
      refine HM.out.mono ?_
      rintro e w7 ⟨wire, rfl, ⟨bs, hbs1, hbs4, hwire, hwl⟩, E7⟩
      have E07 := E06.trans E7
      obtain ⟨g1, g2, g3⟩ := HG.out bs hbs1 hbs4
      have HRD := Lib.hid (bindRead_any w7 ea bs cb6 m t 1 code l (pl.map pcX) HCB.out (by omega) (fun x hx => by
        obtain ⟨y, _, rfl⟩ := List.mem_map.1 hx
        exact ⟨_, rfl⟩) (by rw [List.length_map]; omega) wire wire.length (Lib.hid rfl) (by omega) g1 g2 hwire (HE'.out _ E07))
      clear hwire g1 g2 g3 HG HM hwl hbs1 hbs4
      go_wp2_with fail
      refine HRD.out.mono ?_
      rintro e w8 ⟨ga, gn, gc, r, rfl, ⟨M, N, Q, rfl, hMN⟩, hgr, E8⟩
      have E08 := E07.trans E8
      have E9 := (Ext.refl none_ w8).alloc (.cells #[.int .i64 code, .string M, .string N, .string Q] 56)
      have hmc : ((pl.map pcX).map Prod.fst).map c12 = (pl.map pcU).map c12 := by simp [List.map_map, Function.comp_def, pcX]
      rw [hmc] at hgr
      have hgn := hgr.at.1
      rw [List.length_map, List.length_map] at hgn
      have hw6 : (pl.map fun x => c12 (pcU x)) = (pl.map pcU).map c12 := by simp [List.map_map, Function.comp_def]
      have hr69 : Row 65 12 w8 _ (.slice a6 n6 c6) ((pl.map pcU).map c12) := hw6 ▸ (HR6.out.ext (E7.trans E8))
      have hn6 := hr69.at.1
      rw [List.length_map, List.length_map] at hn6
      obtain rfl : gn = n6 := by rw [← hgn, hn6]
      have hgnl : gn ≤ 1000 := by omega
      have hb8 := (E7.trans E8).get HB6.out (fun h => h)
      have HB8 := Lib.hid hb8
      have HGR := Lib.hid hgr
      have HR69 := Lib.hid hr69
      have HMN := Lib.hid hMN
      have HLEN := Lib.hid (show (pl.map pcU).length = gn by rw [List.length_map]; exact hn6)
      clear hmc hgr hgn hw6 hr69 hn6 hb8 HRD HR6 HB6 HB5 HB3 hln hMN
      have hx8 : (w8.alloc (.cells #[.int .i64 code, .string M, .string N, .string Q] 56)).heap[w8.heap.size]? = _ := heap_new w8 _
      have HX8 := Lib.hid hx8
      clear hx8
      go_wp2_with fail
      refine (berAwake_any _ ea (HE'.out _ (E08.trans E9))).mono ?_
      rintro e w9 ⟨rfl, E10⟩
      have E010 : Ext none_ w w9 := (E08.trans E9).trans E10
      have hx9 := E10.get HX8.out (fun h => h)
      have cx := Lib.cell_of_heap hx9
      have cb := Lib.cell_of_heap ((E9.trans E10).get HB8.out (fun h => h))
      have HSAME := Lib.hid (ldapSame_any w9 _ _ ga a6 gn gc c6 (pl.map pcU) ((HGR.out.ext E9).ext E10) ((HR69.out.ext E9).ext E10) hgnl HLEN.out)
      clear hx9 HX8 HB8 HGR HR69
      by_cases hz : code = 0
      · subst hz
        go_wp2_with fail
        refine HSAME.out.mono ?_
        rintro e w10 ⟨rfl, E11⟩
        go_wp2_with fail
        go_ret
        exact ⟨rfl, E010.trans E11⟩
      · have hzi : ¬ (code : Int) = 0 := by omega
        obtain ⟨rfl, rfl⟩ := HMN.out hz
        go_wp2_with fail
        refine HSAME.out.mono ?_
        rintro e w10 ⟨rfl, E11⟩
        go_wp2_with fail
        go_ret
        exact ⟨rfl, E010.trans E11⟩
  · have hbigi : (2147483647 : Int) < (hn : Int) := by omega
    have hbigb : decide ((2147483647 : Int) < (hn : Int)) = true := by simp; omega
    go_wp2_with fail
    go_ret
    exact ⟨rfl, E02⟩

end Go.Proofs.YtocjfcgailkfjaaGreatDoor
end
