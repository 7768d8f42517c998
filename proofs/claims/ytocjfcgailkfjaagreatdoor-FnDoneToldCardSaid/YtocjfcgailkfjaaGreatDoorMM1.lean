/- decodeSearchResultDone. DoneRead. -/
import Derived.Test.YtocjfcgailkfjaaGreatDoorML3
import Derived.Test.YtocjfcgailkfjaaGreatDoorMJ6

set_option linter.unusedVariables false
set_option linter.unusedSimpArgs false
set_option linter.unusedSectionVars false

section
namespace Go.Proofs.YtocjfcgailkfjaaGreatDoor
open Go.RowKit

/-- What it gives: an error; or no error, and a block with the controls where there are any. -/
def DoneE (w : World) (S : Nat → Prop) (p code : Nat) (m t : List UInt8) (cs : List (UC × Bool)) (e : Ending) (w' : World) : Prop :=
  ∃ P v, e = .returned (.tuple #[.pointer P, v]) ∧ ErrAt w' code m t v ∧ AnsPk w' S p code m t ∧ Ext S w w' ∧
    ((code ≠ 0 ∧ P = none) ∨ (code = 0 ∧ ((cs = [] ∧ P = none) ∨ ∃ R ta tn tc us, P = some ⟨R, 0, none⟩ ∧ w'.heap[R]? = some (.cells #[.pointer none, .string ⟨#[]⟩, .slice ta tn tc, .nilIface] 102 (0, 0)) ∧ Row 128 1 w' (fun b => w.heap.size ≤ b) (.slice ta tn tc) us ∧ IfRow w' (cs.map Prod.fst) us)))

set_option maxHeartbeats 2000000 in
set_option maxRecDepth 100000 in
theorem decodeDone_any (w : World) (S : Nat → Prop) (hS : ∀ b, S b → b < w.heap.size) (p : Nat) (bs cb m t : List UInt8) (kind code : Nat) (l : List (List UInt8)) (cs : List (UC × Bool)) (hcb : cb = [UInt8.ofNat code]) (hcode : code ≤ 127) (hk : ∀ x ∈ cs, ∃ rest, x.1.1 = 49 :: 46 :: 50 :: 46 :: 51 :: rest) (hcl : cs.length ≤ 1000)
    (h : PkAt ValOk w S (msgT bs (resT kind cb m t l) (cs.map ctlTree)) p) :
    Calls Tryz.prog 70 #[.pointer (some ⟨p, 0, none⟩)] w (DoneE w S p code m t cs) := by
  have hans := ans_pk h hcb hcode
  obtain ⟨enc, q0, q1, -, hrest⟩ := msg_parts h
  have HREST := Lib.hid hrest
  have HANS := Lib.hid hans
  have HS := Lib.hid hS
  have HK := Lib.hid hk
  clear h hrest hS hk hans
  go_enter Tryz.func70, Tryz.ntmps70
  go_wp2_with fail
  refine (getError_any w S p code m t hcode HANS.out).mono ?_
  rintro e w1 hE
  rcases hE with ⟨rfl, rfl, rfl⟩ | ⟨h0, E, N, rfl, hE1, hE2, -, -, E1⟩
  case inr =>
    have HE1 := Lib.hid hE1
    have HE2 := Lib.hid hE2
    clear hE1 hE2
    go_wp2_with fail
    exact bodyPost_ret (v := .tuple #[.pointer none, .iface 294 (.pointer (some ⟨E, 0, none⟩))]) (by simp [results, Tryz.results70]) rfl ⟨none, _, rfl, .inr ⟨h0, E, N, p, rfl, HE1.out, HE2.out⟩, HANS.out.ext E1, Ext.zero E1, .inl ⟨h0, rfl⟩⟩
  case inl =>
    rcases HREST.out with ⟨hc, hp⟩ | ⟨hc, q2, enc3, pcs, hp, hq2, hpc⟩
    · -- no controls
      have hcs : cs = [] := by simpa using hc
      clear hc
      go_wp2_with fail
      refine (packetChildIf_no w S p 0 32 16 .nilIface enc [q0, q1] 2 2 rfl hp (by simp) (by omega)).mono ?_
      clear hp
      rintro e w2 ⟨rfl, rfl⟩
      go_wp2_with fail
      exact bodyPost_ret (v := .tuple #[.pointer none, .nilIface]) (by simp [results, Tryz.results70]) rfl ⟨none, _, rfl, .inl ⟨rfl, rfl⟩, HANS.out, Ext.refl _ _, .inr ⟨rfl, .inl ⟨hcs, rfl⟩⟩⟩
    · have hpcl : pcs.length = cs.length := by have := PkAtL.length _ _ hpc; simpa using this
      have hcs0 : cs.length ≠ 0 := fun e => hc (by rw [List.eq_nil_of_length_eq_zero e]; rfl)
      have HP := Lib.hid hp
      have HQ2 := Lib.hid hq2
      have HPC := Lib.hid hpc
      clear hp hq2 hpc
      go_wp2_with fail
      refine (packetChildIf_yes w S p 0 32 16 .nilIface enc [q0, q1, q2] 2 q2 2 rfl HP.out rfl).mono ?_
      rintro e w2 ⟨rfl, rfl⟩
      obtain ⟨dq, rowq, bvq, gq, chq, dsq, hpq, -, hchq, -, -, -, hSg, -⟩ := HQ2.out
      have hgqS := HS.out gq hSg
      have hq2S := lt_of_block hpq
      obtain ⟨capq, curq, rfl, hgq, -, hlcq, hcmq, hcurq⟩ := hchq
      obtain ⟨nq, hnq⟩ : ∃ nq, pcs.length = nq := ⟨_, rfl⟩
      rw [hnq] at hpq hlcq
      have E2 := (Ext.refl none_ w).alloc (.cells #[.pointer none, .string ⟨#[]⟩, .slice none 0 0, .nilIface] 102)
      have k2 : (w.alloc (.cells #[.pointer none, .string ⟨#[]⟩, .slice none 0 0, .nilIface] 102)).heap[w.heap.size]? = _ := heap_new w _
      have cq := Lib.cell_of_heap (E2.get hpq (fun h => h))
      have HGQ := Lib.hid (E2.get hgq (fun h => h))
      have HCQ := Lib.hid hcurq
      have HNC := Lib.hid (hpcl.symm.trans hnq)
      unfold maxLen at hcmq
      have hnq2 : nq ≤ 1000 := by rw [← hnq, hpcl]; exact hcl
      have HST0 : Hid (CtlSt (w.alloc (.cells #[.pointer none, .string ⟨#[]⟩, .slice none 0 0, .nilIface] 102)) (w.alloc (.cells #[.pointer none, .string ⟨#[]⟩, .slice none 0 0, .nilIface] 102)) S none_ w.heap.size 102 (fun a => #[.pointer none, .string ⟨#[]⟩, a, .nilIface]) cs pcs 0 (.slice none 0 0)) :=
        Lib.hid ⟨[], .inl ⟨rfl, rfl⟩, ⟨rfl, fun i x hi => by simp at hi⟩, k2, PkAtL.frame (fun b hb hb2 => ⟨E2.block b hb2 (fun h => h), hb⟩) _ _ HPC.out, Ext.refl _ _, fun _ _ _ _ h _ _ _ => h⟩
      have HAN0 : Hid (AnsPk (w.alloc (.cells #[.pointer none, .string ⟨#[]⟩, .slice none 0 0, .nilIface] 102)) S p 0 m t) := Lib.hid (HANS.out.ext E2)
      have K2 := Lib.hid k2
      have s1 := lt_of_block k2
      clear hSg k2 hpcl hgq hcurq hnq hc hpq
      go_wp2_with fail
      clear cq
      obtain ⟨w2, hw2⟩ : ∃ w2 : World, w2 = w.alloc (.cells #[.pointer none, .string ⟨#[]⟩, .slice none 0 0, .nilIface] 102) := ⟨_, rfl⟩
      rw [← hw2] at HST0 HAN0 s1 E2 HGQ
      have hs2 : w2.heap.size = w.heap.size + 1 := by rw [hw2]; simp
      go_loopw [36] (fun v36 W => ∃ j sa sn sc, j ≤ nq ∧ v36 = .int .i64 (j : Nat) ∧ Hid (CtlSt w2 W S none_ w.heap.size 102 (fun a => #[.pointer none, .string ⟨#[]⟩, a, .nilIface]) cs pcs j (.slice sa sn sc)) ∧ Hid (AnsPk W S p 0 m t)) (fun v36 _ => nq - (intOf v36).toNat)
      case atStart => exact ⟨0, none, 0, 0, by omega, rfl, hw2 ▸ HST0, hw2 ▸ HAN0⟩
      case round =>
        obtain ⟨j, ta, tn, tc, hj, rfl, H, HAN⟩ := hrel
        clear HST0 HAN0
        by_cases hlt : j < nq
        · have hji : (j : Int) < (nq : Int) := by omega
          obtain ⟨x, hx⟩ : ∃ x, cs[j]? = some x := ⟨cs[j]'(by have := HNC.out; omega), List.getElem?_eq_getElem _⟩
          obtain ⟨us, hrow, hif, hRb, hpk, E, KT⟩ := H.out
          obtain ⟨q, hq, hqp⟩ := PkAtL.get _ _ j (ctlTree x) hpk (by simp [hx])
          have hc1 : wr.cell? ⟨gq, j, none⟩ = some (.pointer (some ⟨q, 0, none⟩)) := by
            rw [Lib.cell_of_heap (KT _ _ _ _ HGQ.out (by decide) (by decide) (by omega))]; exact HCQ.out j q hq
          obtain ⟨rest, hkx⟩ := HK.out x (List.mem_of_getElem? hx)
          have HD := Lib.hid (decode_any wr S q x.1.1 x.1.2.2 rest x.1.2.1 x.2 (Lib.hid hkx) hqp)
          have hlen : us.length ≤ 100000 := by rw [hif.1, List.length_map, List.length_take]; omega
          have HX := Lib.hid hx
          have HROWC := Lib.hid hrow
          have HIF := Lib.hid hif
          have HRB := Lib.hid hRb
          have HPK := Lib.hid hpk
          have HKT := Lib.hid KT
          clear hx hrow hif hRb hpk KT hq hqp hkx H
          go_wp2_with fail
          refine HD.out.mono ?_
          rintro e w3 ⟨g, rfl, hg, hgl, D⟩
          have hRb2 := D.get HRB.out (by decide)
          have cR := Lib.cell_of_heap hRb2
          have Ea := (Ext.refl none_ w3).alloc (.cells #[.iface 203 (.pointer (some ⟨g, 0, none⟩))] 128)
          obtain ⟨za, zn, zc, W3, hrun, hrowE, EE⟩ := append_if _ _ (.slice ta tn tc) us w3.heap.size [.iface 203 (.pointer (some ⟨g, 0, none⟩))] rfl ((HROWC.out.desc D (by decide)).ext Ea) (heap_new w3 _) (by simp [Value.oneCell']) hlen
          rw [World.size_alloc] at hrowE
          have hRS : ¬ S w.heap.size := fun h => by have := HS.out _ h; omega
          have hSA : ∀ b, S b → ¬ none_ b ∧ b < w2.heap.size := fun b hb => ⟨fun h => h, by have := HS.out b hb; omega⟩
          obtain ⟨hRb3, HSTn⟩ := ctl_step (A := none_) (c := 2) (T := 102) (f := fun a => #[.pointer none, .string ⟨#[]⟩, a, .nilIface]) HX.out hRS hSA (by omega) ⟨by decide, by decide, by decide⟩ (fun _ _ => rfl) HROWC.out HIF.out HRB.out HPK.out E HKT.out D hg hrowE EE
          have HANn := Lib.hid (ans_step (A := none_) (c := 2) (sl' := .slice za zn zc) hRS hSA HROWC.out D EE HAN.out)
          have cR3 := Lib.cell_of_heap hRb3
          have fR3 := Lib.frozen_of_heap hRb3
          have HSTN := Lib.hid HSTn
          clear hRb2 hRb3 HSTn hrowE EE hg D Ea E hRS hSA
          go_wp2_with (at_builtin; refine Lib.wpList_append_run _ rfl _ _ _ _ rfl _ _ rfl rfl _ _ hrun ?_)
          go_roundw
          case rel =>
            first
              | exact ⟨j + 1, za, zn, zc, by omega, by go_num, HSTN, HANn⟩
              | (repeat apply Exists.intro
                 exact ⟨⟨j + 1, za, zn, zc, by omega, by go_num, HSTN, HANn⟩, rfl⟩)
          case measure => simp [intOf]; omega
        · have hji : ¬ (j : Int) < (nq : Int) := by omega
          obtain rfl : j = nq := by omega
          obtain ⟨us, hrow, hif, hRb, hpk, E, KT⟩ := H.out
          rw [List.take_of_length_le (by have := HNC.out; omega)] at hif
          have HROWC := Lib.hid hrow
          have HIF := Lib.hid hif
          have HRB := Lib.hid hRb
          have cR := Lib.cell_of_heap hRb
          have hut : us.length = tn := hrow.at.1
          have htn0 : ¬ (tn : Int) = 0 := by
            have := hif.1
            rw [List.length_map] at this
            omega
          clear hrow hif hRb hpk KT H
          go_wp2_with fail
          refine bodyPost_ret (v := .tuple #[.pointer (some ⟨w.heap.size, 0, none⟩), .nilIface]) (by simp [results, Tryz.results70]) rfl ⟨_, _, rfl, .inl ⟨rfl, rfl⟩, HAN.out, Ext.trans' (Ext.zero E2) E (fun b hb h => ?_), .inr ⟨rfl, .inr ⟨w.heap.size, ta, tn, tc, us, rfl, HRB.out, HROWC.out.frame (fun b hb _ => ⟨rfl, ?_⟩), HIF.out⟩⟩⟩
          · rcases h with h | h | h
            · omega
            · exact h
            · exact h.elim
          · rcases hb with h | h
            · exact h.elim
            · omega

set_option maxHeartbeats 400000 in
set_option maxRecDepth 100000 in
theorem decodeDone50 (w : World) (p : Nat) (S : Nat → Prop) (code : Nat) (m t : List UInt8) (cs : List (UC × Bool)) (h : Calls Tryz.prog 70 #[.pointer (some ⟨p, 0, none⟩)] w (DoneE w S p code m t cs)) :
    Calls Tryz.prog 50 #[.pointer (some ⟨p, 0, none⟩)] w (DoneE w S p code m t cs) := by
  have H := Lib.hid h
  clear h
  go_enter Tryz.func50, Tryz.ntmps50
  go_wp2_with fail
  refine H.out.mono ?_
  rintro e w1 ⟨P, v, rfl, hrest⟩
  have HR := Lib.hid hrest
  clear hrest
  go_wp2_with fail
  exact bodyPost_ret (v := .tuple #[.pointer P, v]) (by simp [results, Tryz.results50]) rfl ⟨P, v, rfl, HR.out⟩

end Go.Proofs.YtocjfcgailkfjaaGreatDoor
end

section
namespace Go.Proofs.YtocjfcgailkfjaaGreatDoor
open Go.RowKit

/-- What DoneRead gives. -/
def DRd (w : World) (code : Nat) (m t : List UInt8) (cs : List (UC × Bool)) (e : Ending) (w' : World) : Prop :=
  ∃ ca cn cc b r, e = .returned (.tuple #[.slice ca cn cc, .bool b, r, .string ⟨#[]⟩]) ∧ ResV code m t r ∧ (code = 0 → Row 65 12 w' (fun b => w.heap.size ≤ b) (.slice ca cn cc) ((cs.map Prod.fst).map c12)) ∧ Ext none_ w w'

set_option maxHeartbeats 1000000 in
set_option maxRecDepth 100000 in
theorem doneRead_any (w : World) (ea : Addr) (bs cb m t : List UInt8) (kind code : Nat) (l : List (List UInt8)) (cs : List (UC × Bool)) (hcb : cb = [UInt8.ofNat code]) (hcode : code ≤ 127) (hk : ∀ x ∈ cs, ∃ rest, x.1.1 = 49 :: 46 :: 50 :: 46 :: 51 :: rest) (hcl : cs.length ≤ 1000)
    (wire : List UInt8) (n : Nat) (hn : Hid (wire.length = n)) (hn2 : n ≤ 100000) (hd : (msgT bs (resT kind cb m t l) (cs.map ctlTree)).deep ≤ 800) (hf : (msgT bs (resT kind cb m t l) (cs.map ctlTree)).fine) (hw : Wire (msgT bs (resT kind cb m t l) (cs.map ctlTree)) wire) (hE : w.cell? ⟨1, 0, none⟩ = some (.iface 310 (.pointer (some ea)))) :
    Calls Tryz.prog 22 #[.string (strOf wire)] w (DRd w code m t cs) := by
  have EX := (Ext.refl none_ w).alloc (.cells #[.int .i64 0, .string ⟨#[]⟩, .string ⟨#[]⟩, .string ⟨#[]⟩] 56)
  have h10 : 1 < w.heap.size := by have := World.block_lt_of_cell? w ⟨1, 0, none⟩ hE; simpa using this
  have HC := Lib.hid (read_any (w.alloc (.cells #[.int .i64 0, .string ⟨#[]⟩, .string ⟨#[]⟩, .string ⟨#[]⟩] 56)) ea _ wire n hn hn2 hd hf hw (by rw [EX.cell (p := ⟨1, 0, none⟩) h10 (fun h => h)]; exact hE))
  have HK := Lib.hid hk
  have HCB := Lib.hid hcb
  clear hd hf hw hE hk hcb
  go_enter Tryz.func22, Tryz.ntmps22
  go_wp2_with fail
  refine HC.out.mono ?_
  rintro e w1 ⟨p, rfl, hpk, E1⟩
  have hpk1 := PkAt.frame (w' := w1) (S' := fun b => b < w1.heap.size ∧ w.heap.size < b) (fun b hb hb2 => ⟨rfl, hb2, by rw [World.size_alloc] at hb; omega⟩) _ _ hpk
  have HD := Lib.hid (decodeDone50 w1 p _ code m t cs (decodeDone_any w1 _ (fun b hb => hb.1) p bs cb m t kind code l cs HCB.out hcode HK.out hcl hpk1))
  have hX0 := E1.get (heap_new w (.cells #[.int .i64 0, .string ⟨#[]⟩, .string ⟨#[]⟩, .string ⟨#[]⟩] 56)) (fun h => h)
  have HX0 := Lib.hid hX0
  clear hpk hpk1 HC hX0
  go_wp2_with fail
  refine HD.out.mono ?_
  rintro e w2 ⟨P, v, rfl, hat, hans, E2, hways⟩
  have hX2 := E2.get HX0.out (by omega)
  have HX2 := Lib.hid hX2
  have E02 : Ext none_ w w2 := (EX.trans E1).trans' E2 fun b hb h => by omega
  have s1 : w.heap.size < w1.heap.size := lt_of_block HX0.out
  have HAT := Lib.hid hat
  have HANS := Lib.hid hans
  have hways2 : (P = none ∧ (code = 0 → cs = [])) ∨ (∃ R ta tn tc us, P = some ⟨R, 0, none⟩ ∧ w2.heap[R]? = some (.cells #[.pointer none, .string ⟨#[]⟩, .slice ta tn tc, .nilIface] 102 (0, 0)) ∧ Row 128 1 w2 (fun b => w1.heap.size ≤ b) (.slice ta tn tc) us ∧ IfRow w2 (cs.map Prod.fst) us) := by
    rcases hways with ⟨h0, h⟩ | ⟨_, ⟨h0, h⟩ | h⟩
    · exact .inl ⟨h, fun e => absurd e h0⟩
    · exact .inl ⟨h, fun _ => h0⟩
    · exact .inr h
  clear hat hans HD HX0 E1 EX hX2 hways
  rcases hways2 with ⟨rfl, hcs⟩ | ⟨R, ta, tn, tc, us, rfl, hR, hrow, hif⟩
  · have HCS := Lib.hid hcs
    clear hcs
    go_wp2_with fail
    refine (result_any w2 _ p code m t v hcode HAT.out HANS.out).mono ?_
    rintro e w4 ⟨⟨r, rfl, hr⟩, E4⟩
    have hX4 := E4.get HX2.out (fun h => h)
    have HX4 := Lib.hid hX4
    have fX := Lib.frozen_of_heap hX4
    obtain ⟨M, N, Q, rfl, hMN⟩ := hr
    have HMN := Lib.hid hMN
    clear hX4 HAT HANS HX2 hMN
    have cX := Lib.cell_of_heap HX4.out
    go_wp2_with fail
    have K := heap_set (heap_set (heap_set (heap_set HX4.out (i := 0) (.int .i64 code)) (i := 1) (.string M)) (i := 2) (.string N)) (i := 3) (.string Q)
    have ck := Lib.cell_of_heap K
    have E04 := E02.trans E4
    refine bodyPost_ret (v := .tuple #[.slice none 0 0, .bool false, .agg #[.int .i64 code, .string M, .string N, .string Q], .string ⟨#[]⟩]) (by simp [results, Tryz.results22, go_sem, ck]) rfl ⟨_, _, _, _, _, rfl, ⟨M, N, Q, rfl, HMN.out⟩, fun h0 => ?_, (((E04.setAt (.inl (Nat.le_refl _)) _).setAt (.inl (Nat.le_refl _)) _).setAt (.inl (Nat.le_refl _)) _).setAt (.inl (Nat.le_refl _)) _⟩
    rw [HCS.out h0]
    exact .inl ⟨rfl, rfl⟩
  · have cR := Lib.cell_of_heap hR
    have htn : tn ≤ 1000 := by
      have := hrow.at.1
      have := hif.1
      rw [List.length_map] at this; omega
    have HBC := Lib.hid (backControls_any w2 _ ta tn tc (cs.map Prod.fst) us hrow hif htn)
    clear hR hrow hif
    go_wp2_with fail
    refine HBC.out.mono ?_
    rintro e w3 ⟨ka, kn, kc, rfl, hrow3, E3⟩
    have HROW := Lib.hid hrow3
    clear hrow3 cR
    go_wp2_with fail
    refine (result_any w3 _ p code m t v hcode (HAT.out.ext E3) (HANS.out.ext E3)).mono ?_
    rintro e w4 ⟨⟨r, rfl, hr⟩, E4⟩
    have hX4 := E4.get (E3.get HX2.out (fun h => h)) (fun h => h)
    have HX4 := Lib.hid hX4
    have fX := Lib.frozen_of_heap hX4
    obtain ⟨M, N, Q, rfl, hMN⟩ := hr
    have HMN := Lib.hid hMN
    clear hX4 HAT HANS HBC HX2 hMN
    have cX := Lib.cell_of_heap HX4.out
    go_wp2_with fail
    have K := heap_set (heap_set (heap_set (heap_set HX4.out (i := 0) (.int .i64 code)) (i := 1) (.string M)) (i := 2) (.string N)) (i := 3) (.string Q)
    have ck := Lib.cell_of_heap K
    have E04 := (E02.trans E3).trans E4
    have s2 := E02.size
    have s3 := E3.size
    have Ef : Ext (fun b => b = w.heap.size) w4 ((((w4.setCell ⟨w.heap.size, 0, none⟩ (.int .i64 code)).setCell ⟨w.heap.size, 1, none⟩ (.string M)).setCell ⟨w.heap.size, 2, none⟩ (.string N)).setCell ⟨w.heap.size, 3, none⟩ (.string Q)) := ((((Ext.refl (fun b => b = w.heap.size) w4).setAt (b := w.heap.size) (.inr rfl) _).setAt (b := w.heap.size) (.inr rfl) _).setAt (b := w.heap.size) (.inr rfl) _).setAt (b := w.heap.size) (.inr rfl) _
    refine bodyPost_ret (v := .tuple #[.slice ka kn kc, .bool true, .agg #[.int .i64 code, .string M, .string N, .string Q], .string ⟨#[]⟩]) (by simp [results, Tryz.results22, go_sem, ck]) rfl ⟨ka, kn, kc, _, _, rfl, ⟨M, N, Q, rfl, HMN.out⟩, fun _ => (HROW.out.ext E4).frame fun b hb hb2 => ⟨?_, ?_⟩, (((E04.setAt (.inl (Nat.le_refl _)) _).setAt (.inl (Nat.le_refl _)) _).setAt (.inl (Nat.le_refl _)) _).setAt (.inl (Nat.le_refl _)) _⟩
    · have hb' : w2.heap.size ≤ b := hb
      exact Ef.block b hb2 (fun e => by have e' : b = w.heap.size := e; have := E2.size; omega)
    · have hb' : w2.heap.size ≤ b := hb
      omega

end Go.Proofs.YtocjfcgailkfjaaGreatDoor
end
