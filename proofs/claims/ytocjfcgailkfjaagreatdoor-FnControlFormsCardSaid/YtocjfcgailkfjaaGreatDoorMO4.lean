/- DecodeControl of a paging control. -/
import Derived.Test.YtocjfcgailkfjaaGreatDoorMO2
import Derived.Test.YtocjfcgailkfjaaGreatDoorMO1
import Derived.Test.YtocjfcgailkfjaaGreatDoorMN1

set_option linter.unusedVariables false
set_option linter.unusedSimpArgs false
set_option linter.unusedSectionVars false

section
namespace Go.Proofs.YtocjfcgailkfjaaGreatDoor
open Go.RowKit

theorem ValOk.page_num {d : List UInt8} {v : Value} (h : ValOk 0 2 d v) : v = .iface 2 (.int .i64 (parseI d)) := by
  rcases h with ⟨_, h, _⟩ | ⟨_, _, h⟩ | ⟨_, h, _⟩ | ⟨h, _⟩
  · omega
  · exact h
  · omega
  · exact absurd rfl h

theorem pk_page {W : World} {S : Nat → Prop} {bs ck : List UInt8} {p : Nat} (h : PkAt ValOk W S (pageT bs ck) p) :
    ∃ qa qb, PkOwn W S p 0 32 16 .nilIface (T.encL [.prim 0 2 bs, .prim 0 4 ck]) [qa, qb] ∧ PkOwn W S qa 0 0 2 (.iface 2 (.int .i64 (parseI bs))) bs [] ∧ PkOwn W S qb 0 0 4 (.iface 9 (.string (strOf ck))) ck [] := by
  unfold pageT PkAt at h
  obtain ⟨ps, h1, h2⟩ := h
  match ps, h2 with
  | [qa, qb], h2 =>
    simp only [PkAtL, PkAt] at h2
    obtain ⟨⟨va, k1, k2⟩, ⟨vb, k3, k4⟩, -⟩ := h2
    obtain rfl := k2.page_num
    obtain rfl := k4.str
    exact ⟨qa, qb, h1, k1, k3⟩

theorem heap_new2 (w : World) (p q : Addr) (v u : Value) (o : Obj) : (((w.setCell p v).setCell q u).alloc o).heap[w.heap.size]? = some o := by
  have h := heap_new ((w.setCell p v).setCell q u) o
  rwa [World.size_setCell, World.size_setCell] at h

/-- What DecodeControl gives of a paging control. -/
def DecP (w : World) (S : Nat → Prop) (num : Nat) (ck : List UInt8) (e : Ending) (w' : World) : Prop :=
  ∃ g ca cn cc, e = .returned (.tuple #[.iface 151 (.pointer (some ⟨g, 0, none⟩)), .nilIface]) ∧ w'.heap[g]? = some (.cells #[.int .u32 num, .slice ca cn cc] 154 (0, 0)) ∧ Hid (ck.length = cn) ∧ (ck = [] ∨ ∃ sg so, ca = some ⟨sg, so, none⟩ ∧ BytesAt w' sg so ck) ∧ Ext S w w'

/-- The number that is read. -/
def numOf (bs : List UInt8) : Nat := (parseI bs % 4294967296).toNat

set_option maxHeartbeats 2000000 in
set_option maxRecDepth 100000 in
theorem decodeP_any (w : World) (S : Nat → Prop) (hSw : Hid (∀ b, S b → b < w.heap.size)) (hS1 : ¬ S 1) (ea : Addr) (hE : w.cell? ⟨1, 0, none⟩ = some (.iface 310 (.pointer (some ea)))) (p q0 q1 : Nat) (bs ck vb bs0 : List UInt8) (kd : List UInt8) (hk : Hid (kd = kd1)) (hvb : Hid (vb = (pageT bs ck).enc))
    (hb1 : 1 ≤ bs.length) (hb4 : bs.length ≤ 4) (hck : ck.length ≤ 40)
    (h : PkOwn w S p 0 32 16 .nilIface bs0 [q0, q1]) (h0 : PkOwn w S q0 0 0 4 (.iface 9 (.string (strOf kd))) kd []) (h1 : PkOwn w S q1 0 0 4 (.iface 9 (.string (strOf vb))) vb []) :
    Calls Tryz.prog 55 #[.pointer (some ⟨p, 0, none⟩)] w (DecP w S (numOf bs) ck) := by
  have HG := Lib.hid (page_good bs ck hb1 hb4 hck)
  have HP := Lib.hid h
  have HQ0 := Lib.hid h0
  have HQ1 := Lib.hid h1
  have HE := Lib.hid hE
  clear h h0 h1 hE hb1 hb4
  go_enter Tryz.func55, Tryz.ntmps55
  go_wp2_with fail
  refine (packetChildCount_any w S p 0 32 16 .nilIface bs0 [q0, q1] HP.out 2 rfl 1 3 _ (by omega) (by omega) (.inr ⟨by omega, by omega⟩) (by omega)).mono ?_
  rintro e w1 ⟨g, c, rfl, rfl⟩
  go_wp2_with fail
  refine (packetChild_any w S p 0 32 16 .nilIface bs0 [q0, q1] 0 q0 0 rfl HP.out rfl).mono ?_
  rintro e w1 ⟨rfl, rfl⟩
  obtain ⟨d0, row0, bv0, g0, ch0, ds0, hp0, -, -, -, hS0, -⟩ := HQ0.out
  have c0 := Lib.cell_of_heap hp0
  have f0 := Lib.frozen_of_heap hp0
  have D0 := Desc.store hp0 hS0 ⟨#[67, 111, 110, 116, 114, 111, 108, 32, 84, 121, 112, 101, 32, 40, 41]⟩
  clear hp0
  go_wp2_with fail
  refine cutC (fun W => PkOwn W S p 0 32 16 .nilIface bs0 [q0, q1] ∧ PkOwn W S q0 0 0 4 (.iface 9 (.string (strOf kd))) kd [] ∧ PkOwn W S q1 0 0 4 (.iface 9 (.string (strOf vb))) vb [] ∧ Desc S w W) ⟨HP.out.desc D0, HQ0.out.desc D0, HQ1.out.desc D0, D0⟩ ?_
  clear c0 f0 D0 HP HQ0 HQ1
  rintro W ⟨hp, h0, h1, D0⟩
  have HP := Lib.hid hp
  have HQ1 := Lib.hid h1
  refine (packetString_any W S q0 0 0 4 (strOf kd) kd [] h0).mono ?_
  rintro e w1 ⟨rfl, rfl⟩
  clear hp h0 h1
  go_wp2_with fail
  refine (packetChild_any W S p 0 32 16 .nilIface bs0 [q0, q1] 1 q1 1 rfl HP.out rfl).mono ?_
  rintro e w1 ⟨rfl, rfl⟩
  obtain ⟨d1, row1, bv1, g1, ch1, ds1, hp1, -, -, -, hS1', -⟩ := HQ1.out
  have c1 := Lib.cell_of_heap hp1
  have f1 := Lib.frozen_of_heap hp1
  have D1 := Desc.store hp1 hS1' ⟨#[67, 111, 110, 116, 114, 111, 108, 32, 86, 97, 108, 117, 101]⟩
  obtain ⟨ds1', hp1'⟩ := hp1.desc D1
  have HP1 := Lib.hid hp1'
  clear hp1 hp1'
  obtain ⟨k0, k1⟩ := kinds1 kd hk.out
  have hq1l : q1 < W.heap.size := lt_of_block HP1.out |> fun h => by simpa using h
  go_wp2_with fail
  refine cutC (fun X => PkOwn X S q1 0 0 4 (.iface 9 (.string (strOf vb))) vb [] ∧ X.heap[W.heap.size]? = some (.cells #[.int .u32 0, .slice none 0 0] 154 (0, 0)) ∧ Desc S w X)
    ⟨(HQ1.out.desc (D1.trans (Desc.store HP1.out hS1' _))).ext ((Ext.refl none_ _).alloc _), heap_new2 W _ _ _ _ _, (D0.trans (D1.trans (Desc.store HP1.out hS1' _))).trans (Desc.of ((Ext.refl none_ _).alloc _))⟩ ?_
  have hsz0 := D0.size
  have hWX : W.heap.size = W.heap.size := rfl
  clear c1 f1 D1 HP1 HP HQ1 k0 k1
  rintro X ⟨hq1, hn, D2⟩
  obtain ⟨cp, hcp⟩ : ∃ cp, W.heap.size = cp := ⟨_, rfl⟩
  rw [hcp] at hn hsz0 ⊢
  have h1s : 1 < w.heap.size := by have := World.block_lt_of_cell? w ⟨1, 0, none⟩ HE.out; simpa using this
  have hvne : vb ≠ [] := by rw [hvb.out]; exact HG.out.2.2.2.2
  have hcpX := lt_of_block hn
  have HN := Lib.hid hn
  have HQ1 := Lib.hid hq1
  have hszX := D2.size
  clear hn hWX
  refine (packetDataR_any X S q1 0 0 4 _ vb [] hq1 hvne).mono ?_
  rintro e X1 ⟨⟨g, n, c, rfl, hln, hB, hnc, hc⟩, hsm⟩
  have hszX1 : X1.heap.size = X.heap.size := by rw [hsm.heap]
  have hE1 : X1.cell? ⟨1, 0, none⟩ = some (.iface 310 (.pointer (some ea))) := by
    rw [hsm.ext.cell (S := S) (p := ⟨1, 0, none⟩) (by show 1 < _; omega) hS1, D2.ext.cell (p := ⟨1, 0, none⟩) h1s hS1]; exact HE.out
  have hn80 : n ≤ 80 := by have := hln.out; have := HG.out.2.2.2.1; rw [← hvb.out] at this; omega
  have HC := Lib.hid (decodePacketErr_any X1 ea g n c (pageT bs ck) vb hln (by omega) HG.out.2.1 HG.out.1 (by rw [hvb.out]; exact HG.out.2.2.1) hB hnc hc hE1)
  have HQ2 := Lib.hid (HQ1.out.frame (w' := X1) (S' := S) (fun b hb hl => ⟨by rw [hsm.heap], hb⟩))
  have HN2 := Lib.hid (hsm.get HN.out)
  have EX01 : Ext S w X1 := D2.ext.trans hsm.ext
  clear hB hE1 hq1 HQ1 HN hsm D2 D0
  go_wp2_with fail
  refine HC.out.mono ?_
  rintro e X2 ⟨p2, rfl, hpk, EX2⟩
  have hszX2 := EX2.size
  obtain ⟨qa, qb, hpo, hqa, hqb⟩ := pk_page hpk
  have hn2 := EX2.get HN2.out (fun h => h)
  have hq2 := HQ2.out.ext EX2
  have EX02 := EX01.trans EX2.zero
  have HPO := Lib.hid hpo
  have HQA := Lib.hid hqa
  have HQB := Lib.hid hqb
  have HN3 := Lib.hid hn2
  obtain ⟨d, row, bv, gg, ch, ds, hpb, hbf, hcv, ⟨hgp, hpd, hgd, hrp, hrg⟩, hsp, hsd, hsg, hsr, hbv⟩ := hq2
  have cp0 := Lib.cell_of_heap hpb
  have fp0 := Lib.frozen_of_heap hpb
  have HPB := Lib.hid hpb
  have HBF := Lib.hid hbf
  have HCV := Lib.hid hcv
  clear HC HQ2 HN2 hpk hpo hqa hqb hn2 hpb hbf hcv EX01
  go_wp2_with fail
  refine (truncate_any X2 d row vb HBF.out).mono ?_
  rintro e X3 ⟨rfl, hbf3, EX3⟩
  have hpb3 := EX3.get HPB.out hpd
  have hcv3 := HCV.out.of_heap (EX3.block gg HCV.out.lt hgd)
  have HPB3 := Lib.hid hpb3
  have HCV3 := Lib.hid hcv3
  have HBF3 := Lib.hid hbf3
  clear cp0 fp0 HPB HBF HCV
  have cp0 := Lib.cell_of_heap hpb3
  have fp0 := Lib.frozen_of_heap hpb3
  clear hpb3 hcv3 hbf3
  go_wp2_with fail
  have E24 : Ext S X2 (X3.setCell ⟨q1, 3, none⟩ .nilIface) := (EX3.mono (fun i _ h => h ▸ hsd)).setAt (.inr hsp) _
  have hS2 : ∀ b, X1.heap.size ≤ b → ¬ S b := fun b hb hS => by have := hSw.out b hS; omega
  refine cutC (fun Y => PkOwn Y S q1 0 0 4 .nilIface [] [] ∧ PkOwn Y (fun b => X1.heap.size ≤ b) p2 0 32 16 .nilIface (T.encL [.prim 0 2 bs, .prim 0 4 ck]) [qa, qb] ∧ PkOwn Y (fun b => X1.heap.size ≤ b) qa 0 0 2 (.iface 2 (.int .i64 (parseI bs))) bs [] ∧ PkOwn Y (fun b => X1.heap.size ≤ b) qb 0 0 4 (.iface 9 (.string (strOf ck))) ck [] ∧ Y.heap[cp]? = some (.cells #[.int .u32 0, .slice none 0 0] 154 (0, 0)) ∧ Ext S w Y)
    ⟨⟨d, row, bv, gg, ch, ds, heap_set HPB3.out _, HBF3.out.ext (S := fun b => b = q1) ((Ext.refl (fun b => b = q1) X3).setAt (b := q1) (.inr rfl) _) (fun e => hpd e.symm) (fun k hk e => hrp (e ▸ hk)), HCV3.out.of_heap (Below.heap_setCell _ _ _ _ hgp), ⟨hgp, hpd, hgd, hrp, hrg⟩, hsp, hsd, hsg, hsr, hbv⟩,
      HPO.out.frame (fun b hb hl => ⟨E24.block b hl (hS2 b hb), hb⟩), HQA.out.frame (fun b hb hl => ⟨E24.block b hl (hS2 b hb), hb⟩), HQB.out.frame (fun b hb hl => ⟨E24.block b hl (hS2 b hb), hb⟩), E24.get HN3.out (fun h => by have := hSw.out cp h; omega), EX02.trans E24⟩ ?_
  clear cp0 fp0 HPB3 HCV3 HBF3 HPO HQA HQB HN3 E24 EX02 EX3
  rintro Y ⟨hqY, hpY, hqaY, hqbY, hnY, EY⟩
  have HPO := Lib.hid hpY
  have HQA := Lib.hid hqaY
  have HQB := Lib.hid hqbY
  have HN3 := Lib.hid hnY
  have hszY := EY.size
  have hcpY := lt_of_block hnY
  refine (appendOwn Y S q1 0 0 4 .nilIface [] [] hqY _ p2 0 32 16 .nilIface _ _ hpY (Lib.hid ⟨by omega, by omega⟩) (Lib.hid (.inr rfl)) (by omega) (by have := HG.out.1; unfold pageT T.fine at this; omega) (by simp) (by simp)).mono ?_
  rintro e Z ⟨rfl, hqZ, EZ⟩
  have hpZ := HPO.out.frame (w' := Z) (S' := fun b => X1.heap.size ≤ b) (fun b hb hl => ⟨EZ.block b hl (hS2 b hb), hb⟩)
  have hqaZ := HQA.out.frame (w' := Z) (S' := fun b => X1.heap.size ≤ b) (fun b hb hl => ⟨EZ.block b hl (hS2 b hb), hb⟩)
  have hqbZ := HQB.out.frame (w' := Z) (S' := fun b => X1.heap.size ≤ b) (fun b hb hl => ⟨EZ.block b hl (hS2 b hb), hb⟩)
  have hnZ := EZ.get HN3.out (fun h => by have := hSw.out cp h; omega)
  have EZ0 := EY.trans EZ
  have HQZ := Lib.hid (packetChild_any Z _ q1 0 0 4 .nilIface _ ([] ++ [p2]) 0 p2 0 rfl hqZ rfl)
  clear HPO HQA HQB HN3 hqY hpY hqaY hqbY hnY hqZ EY EZ
  have HPO := Lib.hid hpZ
  have HQA := Lib.hid hqaZ
  have HQB := Lib.hid hqbZ
  have HN3 := Lib.hid hnZ
  clear hpZ hqaZ hqbZ hnZ
  go_wp2_with fail
  refine HQZ.out.mono ?_
  rintro e Z' ⟨rfl, rfl⟩
  obtain ⟨d2, row2, bv2, gg2, ch2, ds2, hpb2, -, -, -, hsp2, -⟩ := HPO.out
  have cp0 := Lib.cell_of_heap hpb2
  have fp0 := Lib.frozen_of_heap hpb2
  have HPB := Lib.hid hpb2
  clear hpb2
  go_wp2_with fail
  refine cutC (fun U => PkOwn U (fun b => X1.heap.size ≤ b) p2 0 32 16 .nilIface (T.encL [.prim 0 2 bs, .prim 0 4 ck]) [qa, qb] ∧ PkOwn U (fun b => X1.heap.size ≤ b) qa 0 0 2 (.iface 2 (.int .i64 (parseI bs))) bs [] ∧ PkOwn U (fun b => X1.heap.size ≤ b) qb 0 0 4 (.iface 9 (.string (strOf ck))) ck [] ∧ U.heap[cp]? = some (.cells #[.int .u32 0, .slice none 0 0] 154 (0, 0)) ∧ Ext S w U)
    ⟨HPO.out.desc (Desc.store HPB.out hsp2 _), HQA.out.desc (Desc.store HPB.out hsp2 _), HQB.out.desc (Desc.store HPB.out hsp2 _), (Desc.store HPB.out hsp2 _).get HN3.out (by decide), EZ0.setAt (.inl (by omega)) _⟩ ?_
  clear cp0 fp0 HPB HPO HQA HQB HN3 EZ0 HQZ
  rintro U ⟨hpU, hqaU, hqbU, hnU, EU⟩
  have HC0 := Lib.hid (packetChild_any U _ p2 0 32 16 .nilIface _ [qa, qb] 0 qa 0 rfl hpU rfl)
  have HC1 := Lib.hid (packetChild_any U _ p2 0 32 16 .nilIface _ [qa, qb] 1 qb 1 rfl hpU rfl)
  have HQA := Lib.hid hqaU
  have HQB := Lib.hid hqbU
  have HN3 := Lib.hid hnU
  clear hpU hqaU hqbU hnU
  refine HC0.out.mono ?_
  rintro e Z' ⟨rfl, rfl⟩
  go_wp2_with fail
  refine HC1.out.mono ?_
  rintro e Z' ⟨rfl, rfl⟩
  obtain ⟨da, rowa, bva, gga, cha, dsa, hpa, -, -, -, hspa, -⟩ := HQA.out
  obtain ⟨db, rowb, bvb, ggb, chb, dsb, hpbb, -, -, -, hspb, -⟩ := HQB.out
  have hqab : ¬ qa = qb := fun e => by
    subst e
    unfold PkBlk at hpa hpbb
    rw [hpbb] at hpa
    simp at hpa
  have hqba : ¬ qb = qa := fun e => hqab e.symm
  have ca0 := Lib.cell_of_heap hpa
  have fa0 := Lib.frozen_of_heap hpa
  have cb0 := Lib.cell_of_heap hpbb
  have fb0 := Lib.frozen_of_heap hpbb
  have HPA := Lib.hid hpa
  have HPB := Lib.hid hpbb
  clear hpa hpbb HC0 HC1
  go_wp2_with fail
  obtain ⟨dsb', hpb'⟩ := HPB.out.desc (Desc.store (S := fun b => X1.heap.size ≤ b) HPA.out hspa ⟨#[80, 97, 103, 105, 110, 103, 32, 83, 105, 122, 101]⟩)
  refine cutC (fun V => PkOwn V (fun b => X1.heap.size ≤ b) qa 0 0 2 (.iface 2 (.int .i64 (parseI bs))) bs [] ∧ PkOwn V (fun b => X1.heap.size ≤ b) qb 0 0 4 (.iface 9 (.string (strOf ck))) ck [] ∧ V.heap[cp]? = some (.cells #[.int .u32 0, .slice none 0 0] 154 (0, 0)) ∧ Ext S w V)
    ⟨HQA.out.desc ((Desc.store HPA.out hspa _).trans (Desc.store hpb' hspb _)), HQB.out.desc ((Desc.store HPA.out hspa _).trans (Desc.store hpb' hspb _)), ((Desc.store HPA.out hspa _).trans (Desc.store hpb' hspb _)).get HN3.out (by decide), (EU.setAt (.inl (by omega)) _).setAt (.inl (by omega)) _⟩ ?_
  clear ca0 fa0 cb0 fb0 HPA HPB HQA HQB HN3 EU hpb'
  rintro V ⟨hqaV, hqbV, hnV, EV⟩
  have HQB := Lib.hid hqbV
  have HN3 := Lib.hid hnV
  have cn0 := Lib.cell_of_heap hnV
  have fn0 := Lib.frozen_of_heap hnV
  clear hqbV hnV
  refine (packetInt64_any V _ qa 0 0 2 _ bs [] hqaV).mono ?_
  rintro e Z' ⟨rfl, rfl⟩
  clear hqaV
  go_wp2_with fail
  have hnum : parseI bs % 4294967296 = ((numOf bs : Nat) : Int) := by unfold numOf; omega
  have hcpS : cp < X1.heap.size := by omega
  refine cutC (fun V2 => PkOwn V2 (fun b => X1.heap.size ≤ b) qb 0 0 4 (.iface 9 (.string (strOf ck))) ck [] ∧ V2.heap[cp]? = some (.cells #[.int .u32 (parseI bs % 4294967296), .slice none 0 0] 154 (0, 0)) ∧ Ext S w V2)
    ⟨HQB.out.frame (fun b hb hl => ⟨Below.heap_setCell _ _ _ _ (by show b ≠ cp; have h : X1.heap.size ≤ b := hb; omega), hb⟩), heap_set HN3.out _, EV.setAt (.inl (by omega)) _⟩ ?_
  clear cn0 fn0 HQB HN3 EV
  rintro V2 ⟨hqb2, hn2, EV2⟩
  have hqbk := hqb2
  obtain ⟨db, rowb, bvb, ggb, chb, dsb, hpbb, -, -, -, hspb, -⟩ := hqb2
  have hqbl : X1.heap.size ≤ qb := hspb
  have hne1 : ¬ qb = cp := by omega
  have hne2 : ¬ cp = qb := by omega
  have HPB := Lib.hid hpbb
  have HN3 := Lib.hid hn2
  clear hpbb hn2
  refine (packetDataN_any V2 _ qb 0 0 4 _ ck [] hqbk).mono ?_
  rintro e V3 ⟨v, rfl, ⟨ca, cc, rfl, hsrc⟩, hs3⟩
  have hpb3 := hs3.get HPB.out
  have hn3 := hs3.get HN3.out
  have EV3 : Ext S w V3 := EV2.trans hs3.ext
  have HSRC : Hid (ck = [] ∨ ∃ sg so, ca = some ⟨sg, so, none⟩ ∧ BytesAt V3 sg so ck ∧ X1.heap.size ≤ sg ∧ sg ≠ qb) := Lib.hid (hsrc.imp id fun ⟨sg, e1, e2, e3, e4⟩ => ⟨sg, 0, e1, e2.of_heap (by rw [hs3.heap]), e3, e4⟩)
  have HPB3 := Lib.hid hpb3
  have HN4 := Lib.hid hn3
  have cb0 := Lib.cell_of_heap hpb3
  have fb0 := Lib.frozen_of_heap hpb3
  have cn0 := Lib.cell_of_heap hn3
  have fn0 := Lib.frozen_of_heap hn3
  obtain ⟨cn, hcn⟩ : ∃ cn, Hid (ck.length = cn) := ⟨_, Lib.hid rfl⟩
  rw [hcn.out]
  clear hqbk hsrc hpb3 hn3 EV2 HPB HN3 hs3
  go_wp2_with fail
  clear cb0 fb0 cn0 fn0
  have hfin : ((V3.setCell ⟨cp, 1, none⟩ (.slice ca cn cc)).setCell ⟨qb, 3, none⟩ (.iface 26 (.slice ca cn cc))).heap[cp]? = some (.cells #[.int .u32 ((numOf bs : Nat) : Int), .slice ca cn cc] 154 (0, 0)) := by
    rw [← hnum]
    exact heap_set_ne (heap_set HN4.out _) hne2
  have hcpw : w.heap.size ≤ cp := by omega
  have EF := (EV3.setAt (b := cp) (i := 1) (.inl hcpw) (.slice ca cn cc)).setAt (b := qb) (i := 3) (.inl (by omega)) (.iface 26 (.slice ca cn cc))
  refine bodyPost_ret (v := .tuple #[.iface 151 (.pointer (some ⟨cp, 0, none⟩)), .nilIface]) (by simp [results, Tryz.results55]) rfl ⟨cp, ca, cn, cc, rfl, hfin, hcn, HSRC.out.imp id (fun ⟨sg, so, e1, e2, e3, e4⟩ => ⟨sg, so, e1, (e2.of_heap (Below.heap_setCell _ _ _ _ (by show sg ≠ cp; omega))).of_heap (Below.heap_setCell _ _ _ _ e4)⟩), EF⟩

end Go.Proofs.YtocjfcgailkfjaaGreatDoor
end
