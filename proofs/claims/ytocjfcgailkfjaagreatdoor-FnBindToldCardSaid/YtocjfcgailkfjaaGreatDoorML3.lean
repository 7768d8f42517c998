/- result; what is kept over a round of the loop that decodes controls. decodeSimpleBindResult. BindRead. -/
import Derived.Test.YtocjfcgailkfjaaGreatDoorML2
import Derived.Test.YtocjfcgailkfjaaGreatDoorMJ5
import Derived.Test.YtocjfcgailkfjaaGreatDoorMJ6

set_option linter.unusedVariables false
set_option linter.unusedSimpArgs false
set_option linter.unusedSectionVars false

section
namespace Go.Proofs.YtocjfcgailkfjaaGreatDoor
open Go.RowKit

theorem RefCh.frame {w w' : World} {S : Nat → Prop} {r : Nat} (h : RefCh w S r) (hf : ∀ b, S b → b < w.heap.size → w'.heap[b]? = w.heap[b]? ∧ S b) : RefCh w' S r :=
  h.imp (fun ⟨a, b, c, d, e⟩ => ⟨a, b, c, d.frame hf, e⟩) (fun ⟨a, b, c, d, e, f, g, k⟩ => ⟨a, b, c, d, e, f.frame hf, g, k.frame hf⟩)
theorem AnsPk.frame {w w' : World} {S : Nat → Prop} {p code : Nat} {m t : List UInt8} (h : AnsPk w S p code m t) (hf : ∀ b, S b → b < w.heap.size → w'.heap[b]? = w.heap[b]? ∧ S b) : AnsPk w' S p code m t := by
  obtain ⟨enc, ps, q1, enc2, kind, rs, r0, r1, r2, b0, b1, b2, n, k, hp, x1, x2, x3, x4, hq, y1, y2, y3, y4, y5, y6, k0, k1, k2, kr⟩ := h
  exact ⟨enc, ps, q1, enc2, kind, rs, r0, r1, r2, b0, b1, b2, n, k, hp.frame hf, x1, x2, x3, x4, hq.frame hf, y1, y2, y3, y4, y5, y6, k0.frame hf, k1.frame hf, k2.frame hf, fun j r hj => (kr j r hj).frame hf⟩

theorem ans_step {w1 wr w2 W3 : World} {S A : Nat → Prop} {R c p code : Nat} {m t : List UInt8} {sl sl' : Value} {vs : List (List Value)} {o : Obj} (hRS : ¬ S R) (hA : ∀ b, S b → ¬ A b ∧ b < w1.heap.size)
    (hrow : Row 128 1 wr (fun b => A b ∨ w1.heap.size ≤ b) sl vs) (D : Desc S wr w2) (E3 : Ext (fun b => sl.ownBlock = some b) (w2.alloc o) W3) (h : AnsPk wr S p code m t) : AnsPk (W3.setCell ⟨R, c, none⟩ sl') S p code m t := by
  have hown := hrow.own
  refine ((h.desc D).ext ((Ext.refl none_ w2).alloc o)).frame fun b hb hb2 => ⟨?_, hb⟩
  rw [Below.heap_setCell _ _ _ _ (fun e => by subst e; exact hRS hb)]
  exact E3.block b hb2 (fun e => by
    rcases (hown b e).1 with h | h
    · exact (hA b hb).1 h
    · have := (hA b hb).2; omega)

theorem ErrAt.ext {w w' : World} {code : Nat} {m t : List UInt8} {v : Value} (h : ErrAt w code m t v) (E : Ext none_ w w') : ErrAt w' code m t v :=
  h.imp id fun ⟨a, b, c, d, e, f, g⟩ => ⟨a, b, c, d, e, E.get f (fun h => h), E.get g (fun h => h)⟩
theorem ErrE.at {w w' : World} {p code : Nat} {m t : List UInt8} {e : Ending} (h : ErrE w p code m t e w') : ∃ v, e = .returned v ∧ ErrAt w' code m t v ∧ Ext none_ w w' := by
  rcases h with ⟨h0, rfl, rfl⟩ | ⟨h0, E, N, rfl, h1, h2, _, _, hE⟩
  · exact ⟨_, rfl, .inl ⟨h0, rfl⟩, Ext.refl _ _⟩
  · exact ⟨_, rfl, .inr ⟨h0, E, N, p, rfl, h1, h2⟩, hE⟩

set_option maxHeartbeats 400000 in
set_option maxRecDepth 100000 in
theorem codeOf_at (w : World) (code : Nat) (m t : List UInt8) (v : Value) (hc : code ≤ 127) (h : ErrAt w code m t v) :
    Calls Tryz.prog 67 #[v] w fun e w' => ∃ M N, e = .returned (.tuple #[.int .i64 code, .string M, .string N]) ∧ (code ≠ 0 → M = strOf m ∧ N = strOf t) ∧ Ext none_ w w' := by
  rcases h with ⟨rfl, rfl⟩ | ⟨h0, E, N, p, rfl, h1, h2⟩
  · refine (codeOf_nil w).mono ?_
    rintro e w1 ⟨rfl, rfl⟩
    exact ⟨_, _, rfl, fun h => absurd rfl h, Ext.refl _ _⟩
  · refine (codeOf_any w E N p code m t hc h1 h2).mono ?_
    rintro e w1 ⟨rfl, hs⟩
    exact ⟨_, _, rfl, fun _ => ⟨rfl, rfl⟩, hs.ext⟩

/-- What a result comes to. -/
def ResV (code : Nat) (m t : List UInt8) (v : Value) : Prop := ∃ M N R, v = .agg #[.int .i64 code, .string M, .string N, .string R] ∧ (code ≠ 0 → M = strOf m ∧ N = strOf t)

set_option maxHeartbeats 1000000 in
set_option maxRecDepth 100000 in
theorem result_any (w : World) (S : Nat → Prop) (p code : Nat) (m t : List UInt8) (v : Value) (hc : code ≤ 127) (hv : ErrAt w code m t v) (h : AnsPk w S p code m t) :
    Calls Tryz.prog 48 #[v, .pointer (some ⟨p, 0, none⟩)] w fun e w' => (∃ r, e = .returned r ∧ ResV code m t r) ∧ Ext none_ w w' := by
  have E1 := (Ext.refl none_ w).alloc (.cells #[.int .i64 0, .string ⟨#[]⟩, .string ⟨#[]⟩, .string ⟨#[]⟩] 56)
  have hb : (w.alloc (.cells #[.int .i64 0, .string ⟨#[]⟩, .string ⟨#[]⟩, .string ⟨#[]⟩] 56)).heap[w.heap.size]? = _ := heap_new w _
  have H := Lib.hid (codeOf_at _ code m t v hc (hv.ext E1))
  have HB := Lib.hid hb
  have HV := Lib.hid (hv.ext E1)
  have HA := Lib.hid (h.ext E1)
  clear hv h hb
  go_enter Tryz.func48, Tryz.ntmps48
  go_wp2_with fail
  refine H.out.mono ?_
  rintro e w1 ⟨M, N, rfl, hMN, E2⟩
  go_wp2_with fail
  refine (referralOf_any w1 S p code code m t m t v (HV.out.ext E2) (HA.out.ext E2)).mono ?_
  rintro e w2 ⟨⟨s, rfl⟩, E3⟩
  have hb := E3.get (E2.get HB.out (fun h => h)) (fun h => h)
  have cb := Lib.cell_of_heap hb
  have fb := Lib.frozen_of_heap hb
  have HB2 := Lib.hid hb
  have E03 := (E1.trans E2).trans E3
  clear hb HB H HV HA
  go_wp2_with fail
  have K := heap_set (heap_set (heap_set (heap_set HB2.out (i := 0) (.int .i64 code)) (i := 1) (.string M)) (i := 2) (.string N)) (i := 3) (.string s)
  have ck := Lib.cell_of_heap K
  refine bodyPost_ret (v := .agg #[.int .i64 code, .string M, .string N, .string s]) (by simp [results, Tryz.results48, go_sem, ck]) rfl ⟨⟨_, rfl, M, N, s, rfl, hMN⟩, (((E03.setAt (.inl (Nat.le_refl _)) _).setAt (.inl (Nat.le_refl _)) _).setAt (.inl (Nat.le_refl _)) _).setAt (.inl (Nat.le_refl _)) _⟩

end Go.Proofs.YtocjfcgailkfjaaGreatDoor
end

section
namespace Go.Proofs.YtocjfcgailkfjaaGreatDoor
open Go.RowKit

theorem make_ctls (w : World) : (Instr.makeSlice 100 (.int .i64 0) (.int .i64 0)).run Tryz.prog w = .ok (.slice (some ⟨w.heap.size, 0, none⟩) 0 0) (w.alloc (.cells #[] 128)) := by kernel_rfl

/-- What it gives. -/
def BindE (w : World) (S : Nat → Prop) (p code : Nat) (m t : List UInt8) (cs : List (UC × Bool)) (e : Ending) (w' : World) : Prop :=
  ∃ R v ta tn tc us, e = .returned (.tuple #[.pointer (some ⟨R, 0, none⟩), v]) ∧ ErrAt w' code m t v ∧ AnsPk w' S p code m t ∧ w'.heap[R]? = some (.cells #[.slice ta tn tc] 123 (0, 0)) ∧ Row 128 1 w' (fun b => w.heap.size ≤ b) (.slice ta tn tc) us ∧ IfRow w' (cs.map Prod.fst) us ∧ Ext S w w'

set_option maxHeartbeats 2000000 in
set_option maxRecDepth 100000 in
theorem decodeBind_any (w : World) (S : Nat → Prop) (hS : ∀ b, S b → b < w.heap.size) (p : Nat) (bs cb m t : List UInt8) (kind code : Nat) (l : List (List UInt8)) (cs : List (UC × Bool)) (hcb : cb = [UInt8.ofNat code]) (hcode : code ≤ 127) (hk : ∀ x ∈ cs, ∃ rest, x.1.1 = 49 :: 46 :: 50 :: 46 :: 51 :: rest) (hcl : cs.length ≤ 1000)
    (h : PkAt ValOk w S (msgT bs (resT kind cb m t l) (cs.map ctlTree)) p) :
    Calls Tryz.prog 66 #[.pointer (some ⟨p, 0, none⟩)] w (BindE w S p code m t cs) := by
  have hans := ans_pk h hcb hcode
  obtain ⟨enc, q0, q1, -, hrest⟩ := msg_parts h
  have HREST := Lib.hid hrest
  have HANS := Lib.hid hans
  have HS := Lib.hid hS
  have HK := Lib.hid hk
  clear h hrest hS hk hans
  have hmk := make_ctls
  go_enter Tryz.func66, Tryz.ntmps66
  go_wp2_with fail
  have h2n := two_new w (.cells #[] 128 (0, 0)) (.cells #[.slice (some ⟨w.heap.size, 0, none⟩) 0 0] 123 (0, 0))
  refine cutC (fun W => W.heap[w.heap.size]? = some (.cells #[] 128 (0, 0)) ∧ W.heap[w.heap.size + 1]? = some (.cells #[.slice (some ⟨w.heap.size, 0, none⟩) 0 0] 123 (0, 0)) ∧ Ext none_ w W) h2n ?_
  clear h2n hmk
  rintro W ⟨k1, k2, E2⟩
  have s01 := E2.size
  have hrow0 : Row 128 1 W (fun b => b = w.heap.size ∨ W.heap.size ≤ b) (.slice (some ⟨w.heap.size, 0, none⟩) 0 0) [] :=
    .inr ⟨w.heap.size, 0, #[], rfl, .inl rfl, k1, Nat.zero_le _, Nat.zero_le _, rfl, fun _ h => by simp at h, rfl⟩
  rcases HREST.out with ⟨hc, hp⟩ | ⟨hc, q2, enc3, pcs, hp, hq2, hpc⟩
  · -- no controls
    have hcs : cs = [] := by simpa using hc
    clear hc
    have K1 := Lib.hid k1
    have K2 := Lib.hid k2
    have HROW := Lib.hid hrow0
    clear k1 k2 hrow0
    refine (packetChildIf_no W S p 0 32 16 .nilIface enc [q0, q1] 2 2 rfl (hp.ext E2) (by simp) (by omega)).mono ?_
    clear hp
    rintro e w2 ⟨rfl, rfl⟩
    go_wp2_with fail
    refine (getError_any W S p code m t hcode (HANS.out.ext E2)).mono ?_
    rintro e w4 hE
    obtain ⟨v, rfl, hat, E4⟩ := hE.at
    clear hE
    have HAT := Lib.hid hat
    clear hat
    go_wp2_with fail
    refine bodyPost_ret (v := .tuple #[.pointer (some ⟨w.heap.size + 1, 0, none⟩), v]) (by simp [results, Tryz.results66]) rfl ⟨w.heap.size + 1, v, _, _, _, [], rfl, HAT.out, (HANS.out.ext E2).ext E4, E4.get K2.out (fun h => h), (HROW.out.ext E4).frame (fun b hb _ => ⟨rfl, ?_⟩), ?_, Ext.zero (E2.trans E4)⟩
    · rcases hb with h | h <;> omega
    · subst hcs
      exact ⟨rfl, fun i x hi => by simp at hi⟩
  · have HPC := Lib.hid hpc
    have hpcl : pcs.length = cs.length := by have := PkAtL.length _ _ hpc; simpa using this
    obtain ⟨dq, rowq, bvq, gq, chq, dsq, hpq, -, hchq, -, -, -, hSg, -⟩ := hq2.ext E2
    have hgqS := HS.out gq hSg
    obtain ⟨capq, curq, rfl, hgq, -, hlcq, hcmq, hcurq⟩ := hchq
    obtain ⟨nq, hnq⟩ : ∃ nq, pcs.length = nq := ⟨_, rfl⟩
    rw [hnq] at hpq hlcq
    have cq := Lib.cell_of_heap hpq
    have HGQ := Lib.hid hgq
    have HCQ := Lib.hid hcurq
    have HNC := Lib.hid (hpcl.symm.trans hnq)
    unfold maxLen at hcmq
    have hnq2 : nq ≤ 1000 := by rw [← hnq, hpcl]; exact hcl
    have HST0 : Hid (CtlSt W W S (fun b => b = w.heap.size) (w.heap.size + 1) 123 (fun a => #[a]) cs pcs 0 (.slice (some ⟨w.heap.size, 0, none⟩) 0 0)) :=
      Lib.hid ⟨[], hrow0, ⟨rfl, fun i x hi => by simp at hi⟩, k2, PkAtL.frame (fun b hb hb2 => ⟨E2.block b hb2 (fun h => h), hb⟩) _ _ hpc, Ext.refl _ _, fun _ _ _ _ h _ _ _ => h⟩
    have HAN0 : Hid (AnsPk W S p code m t) := Lib.hid (HANS.out.ext E2)
    have K2 := Lib.hid k2
    have s1 := lt_of_block k2
    clear hSg k1 k2 hpc hpcl hgq hcurq hnq hc hq2 hpq hrow0
    refine (packetChildIf_yes W S p 0 32 16 .nilIface enc [q0, q1, q2] 2 q2 2 rfl (hp.ext E2) rfl).mono ?_
    clear hp
    rintro e w2 ⟨rfl, rfl⟩
    go_wp2_with fail
    clear cq
    obtain ⟨w2, rfl⟩ : ∃ w2 : World, w2 = W := ⟨_, rfl⟩
    go_loopw [30] (fun v30 W => ∃ j sa sn sc, j ≤ nq ∧ v30 = .int .i64 (j : Nat) ∧ Hid (CtlSt w2 W S (fun b => b = w.heap.size) (w.heap.size + 1) 123 (fun a => #[a]) cs pcs j (.slice sa sn sc)) ∧ Hid (AnsPk W S p code m t)) (fun v30 _ => nq - (intOf v30).toNat)
    case atStart => exact ⟨0, _, 0, 0, by omega, rfl, HST0, HAN0⟩
    case round =>
      obtain ⟨j, ta, tn, tc, hj, rfl, H, HAN⟩ := hrel
      clear HST0 HAN0
      by_cases hlt : j < nq
      · have hji : (j : Int) < (nq : Int) := by omega
        obtain ⟨x, hx⟩ : ∃ x, cs[j]? = some x := ⟨cs[j]'(by have := HNC.out; omega), List.getElem?_eq_getElem _⟩
        obtain ⟨us, hrow, hif, hRb, hpk, E, KT⟩ := H.out
        obtain ⟨q, hq, hqp⟩ := PkAtL.get _ _ j (ctlTree x) hpk (by simp [hx])
        have hc1 : wr.cell? ⟨gq, j, none⟩ = some (.pointer (some ⟨q, 0, none⟩)) := by
          rw [Lib.cell_of_heap (KT _ _ _ _ HGQ.out (by decide) (by decide) (by omega))]; exact HCQ.out j q hq
        obtain ⟨rest, hkx⟩ := HK.out x (List.mem_of_getElem? hx)
        have HD := Lib.hid (decode_any wr S q x.1.1 x.1.2.2 rest x.1.2.1 x.2 (Lib.hid hkx) hqp)
        have hlen : us.length ≤ 100000 := by rw [hif.1, List.length_map, List.length_take]; omega
        have HX := Lib.hid hx
        have HROWC := Lib.hid hrow
        have HIF := Lib.hid hif
        have HRB := Lib.hid hRb
        have HPK := Lib.hid hpk
        have HKT := Lib.hid KT
        clear hx hrow hif hRb hpk KT hq hqp hkx H
        go_wp2_with fail
        refine HD.out.mono ?_
        rintro e w3 ⟨g, rfl, hg, hgl, D⟩
        have hRb2 := D.get HRB.out (by decide)
        have cR := Lib.cell_of_heap hRb2
        have Ea := (Ext.refl none_ w3).alloc (.cells #[.iface 203 (.pointer (some ⟨g, 0, none⟩))] 128)
        obtain ⟨za, zn, zc, W3, hrun, hrowE, EE⟩ := append_if _ _ (.slice ta tn tc) us w3.heap.size [.iface 203 (.pointer (some ⟨g, 0, none⟩))] rfl ((HROWC.out.desc D (by decide)).ext Ea) (heap_new w3 _) (by simp [Value.oneCell']) hlen
        rw [World.size_alloc] at hrowE
        have hRS : ¬ S (w.heap.size + 1) := fun h => by have := HS.out _ h; omega
        have hSA : ∀ b, S b → ¬ b = w.heap.size ∧ b < w2.heap.size := fun b hb => by have := HS.out b hb; omega
        obtain ⟨hRb3, HSTn⟩ := ctl_step (A := fun b => b = w.heap.size) (c := 0) (T := 123) (f := fun a => #[a]) HX.out hRS hSA s1 ⟨by decide, by decide, by decide⟩ (fun _ _ => rfl) HROWC.out HIF.out HRB.out HPK.out E HKT.out D hg hrowE EE
        have HANn := Lib.hid (ans_step (A := fun b => b = w.heap.size) (c := 0) (sl' := .slice za zn zc) hRS hSA HROWC.out D EE HAN.out)
        have cR3 := Lib.cell_of_heap hRb3
        have fR3 := Lib.frozen_of_heap hRb3
        have HSTN := Lib.hid HSTn
        clear hRb2 hRb3 HSTn hrowE EE hg D Ea E hRS hSA
        go_wp2_with (at_builtin; refine Lib.wpList_append_run _ rfl _ _ _ _ rfl _ _ rfl rfl _ _ hrun ?_)
        go_roundw
        case rel =>
          first
            | exact ⟨j + 1, za, zn, zc, by omega, by go_num, HSTN, HANn⟩
            | (repeat apply Exists.intro
               exact ⟨⟨j + 1, za, zn, zc, by omega, by go_num, HSTN, HANn⟩, rfl⟩)
        case measure => simp [intOf]; omega
      · have hji : ¬ (j : Int) < (nq : Int) := by omega
        obtain rfl : j = nq := by omega
        obtain ⟨us, hrow, hif, hRb, hpk, E, KT⟩ := H.out
        rw [List.take_of_length_le (by have := HNC.out; omega)] at hif
        have HROWC := Lib.hid hrow
        have HIF := Lib.hid hif
        have HRB := Lib.hid hRb
        clear hrow hif hRb hpk KT H
        go_wp2_with fail
        refine (getError_any wr S p code m t hcode HAN.out).mono ?_
        rintro e w4 hE
        obtain ⟨v, rfl, hat, E4⟩ := hE.at
        clear hE
        have HAT := Lib.hid hat
        clear hat
        go_wp2_with fail
        refine bodyPost_ret (v := .tuple #[.pointer (some ⟨w.heap.size + 1, 0, none⟩), v]) (by simp [results, Tryz.results66]) rfl ⟨w.heap.size + 1, v, ta, tn, tc, us, rfl, HAT.out, HAN.out.ext E4, E4.get HRB.out (fun h => h), (HROWC.out.ext E4).frame (fun b hb _ => ⟨rfl, ?_⟩), HIF.out.ext E4, ?_⟩
        · rcases hb with h | h
          · have h' : b = w.heap.size := h
            omega
          · omega
        · refine Ext.trans' (Ext.zero E2) (E.trans (Ext.zero E4)) fun b hb h => ?_
          rcases h with h | h | h
          · omega
          · exact h
          · have h' : b = w.heap.size := h
            omega

set_option maxHeartbeats 400000 in
set_option maxRecDepth 100000 in
theorem decodeBind47 (w : World) (p : Nat) (S : Nat → Prop) (code : Nat) (m t : List UInt8) (cs : List (UC × Bool)) (h : Calls Tryz.prog 66 #[.pointer (some ⟨p, 0, none⟩)] w (BindE w S p code m t cs)) :
    Calls Tryz.prog 47 #[.pointer (some ⟨p, 0, none⟩)] w (BindE w S p code m t cs) := by
  have H := Lib.hid h
  clear h
  go_enter Tryz.func47, Tryz.ntmps47
  go_wp2_with fail
  refine H.out.mono ?_
  rintro e w1 ⟨R, v, ta, tn, tc, us, rfl, hrest⟩
  have HR := Lib.hid hrest
  clear hrest
  go_wp2_with fail
  exact bodyPost_ret (v := .tuple #[.pointer (some ⟨R, 0, none⟩), v]) (by simp [results, Tryz.results47]) rfl ⟨R, v, ta, tn, tc, us, rfl, HR.out⟩

end Go.Proofs.YtocjfcgailkfjaaGreatDoor
end

section
namespace Go.Proofs.YtocjfcgailkfjaaGreatDoor
open Go.RowKit

/-- What BindRead gives. -/
def BRd (w : World) (code : Nat) (m t : List UInt8) (cs : List (UC × Bool)) (e : Ending) (w' : World) : Prop :=
  ∃ ca cn cc r, e = .returned (.tuple #[.slice ca cn cc, r, .string ⟨#[]⟩]) ∧ ResV code m t r ∧ Row 65 12 w' (fun b => w.heap.size ≤ b) (.slice ca cn cc) ((cs.map Prod.fst).map c12) ∧ Ext none_ w w'

set_option maxHeartbeats 1000000 in
set_option maxRecDepth 100000 in
theorem bindRead_any (w : World) (ea : Addr) (bs cb m t : List UInt8) (kind code : Nat) (l : List (List UInt8)) (cs : List (UC × Bool)) (hcb : cb = [UInt8.ofNat code]) (hcode : code ≤ 127) (hk : ∀ x ∈ cs, ∃ rest, x.1.1 = 49 :: 46 :: 50 :: 46 :: 51 :: rest) (hcl : cs.length ≤ 1000)
    (wire : List UInt8) (n : Nat) (hn : Hid (wire.length = n)) (hn2 : n ≤ 100000) (hd : (msgT bs (resT kind cb m t l) (cs.map ctlTree)).deep ≤ 800) (hf : (msgT bs (resT kind cb m t l) (cs.map ctlTree)).fine) (hw : Wire (msgT bs (resT kind cb m t l) (cs.map ctlTree)) wire) (hE : w.cell? ⟨1, 0, none⟩ = some (.iface 310 (.pointer (some ea)))) :
    Calls Tryz.prog 20 #[.string (strOf wire)] w (BRd w code m t cs) := by
  have EX := (Ext.refl none_ w).alloc (.cells #[.int .i64 0, .string ⟨#[]⟩, .string ⟨#[]⟩, .string ⟨#[]⟩] 56)
  have h10 : 1 < w.heap.size := by have := World.block_lt_of_cell? w ⟨1, 0, none⟩ hE; simpa using this
  have HC := Lib.hid (read_any (w.alloc (.cells #[.int .i64 0, .string ⟨#[]⟩, .string ⟨#[]⟩, .string ⟨#[]⟩] 56)) ea _ wire n hn hn2 hd hf hw (by rw [EX.cell (p := ⟨1, 0, none⟩) h10 (fun h => h)]; exact hE))
  have HK := Lib.hid hk
  have HCB := Lib.hid hcb
  clear hd hf hw hE hk hcb
  go_enter Tryz.func20, Tryz.ntmps20
  go_wp2_with fail
  refine HC.out.mono ?_
  rintro e w1 ⟨p, rfl, hpk, E1⟩
  have hpk1 := PkAt.frame (w' := w1) (S' := fun b => b < w1.heap.size ∧ w.heap.size < b) (fun b hb hb2 => ⟨rfl, hb2, by rw [World.size_alloc] at hb; omega⟩) _ _ hpk
  have HD := Lib.hid (decodeBind47 w1 p _ code m t cs (decodeBind_any w1 _ (fun b hb => hb.1) p bs cb m t kind code l cs HCB.out hcode HK.out hcl hpk1))
  have hX0 := E1.get (heap_new w (.cells #[.int .i64 0, .string ⟨#[]⟩, .string ⟨#[]⟩, .string ⟨#[]⟩] 56)) (fun h => h)
  have HX0 := Lib.hid hX0
  clear hpk hpk1 HC hX0
  go_wp2_with fail
  refine HD.out.mono ?_
  rintro e w2 ⟨R, v, ta, tn, tc, us, rfl, hat, hans, hR, hrow, hif, E2⟩
  have hX2 := E2.get HX0.out (by omega)
  have HX2 := Lib.hid hX2
  have E02 : Ext none_ w w2 := (EX.trans E1).trans' E2 fun b hb h => by omega
  have s1 : w.heap.size < w1.heap.size := lt_of_block HX0.out
  have cR := Lib.cell_of_heap hR
  have htn : tn ≤ 1000 := by
    have := hrow.at.1
    have := hif.1
    rw [List.length_map] at this; omega
  have HBC := Lib.hid (backControls_any w2 _ ta tn tc (cs.map Prod.fst) us hrow hif htn)
  have HAT := Lib.hid hat
  have HANS := Lib.hid hans
  clear hat hans hR hrow hif HD HX0 E1 EX hX2
  go_wp2_with fail
  refine HBC.out.mono ?_
  rintro e w3 ⟨ka, kn, kc, rfl, hrow3, E3⟩
  have HROW := Lib.hid hrow3
  clear hrow3 cR
  go_wp2_with fail
  refine (result_any w3 _ p code m t v hcode (HAT.out.ext E3) (HANS.out.ext E3)).mono ?_
  rintro e w4 ⟨⟨r, rfl, hr⟩, E4⟩
  have hX4 := E4.get (E3.get HX2.out (fun h => h)) (fun h => h)
  have HX4 := Lib.hid hX4
  have fX := Lib.frozen_of_heap hX4
  obtain ⟨M, N, Q, rfl, hMN⟩ := hr
  have HMN := Lib.hid hMN
  clear hX4 HAT HANS HBC HX2 hMN
  have cX := Lib.cell_of_heap HX4.out
  go_wp2_with fail
  have K := heap_set (heap_set (heap_set (heap_set HX4.out (i := 0) (.int .i64 code)) (i := 1) (.string M)) (i := 2) (.string N)) (i := 3) (.string Q)
  have ck := Lib.cell_of_heap K
  have E04 := (E02.trans E3).trans E4
  have s2 := E02.size
  have s3 := E3.size
  have Ef : Ext (fun b => b = w.heap.size) w4 ((((w4.setCell ⟨w.heap.size, 0, none⟩ (.int .i64 code)).setCell ⟨w.heap.size, 1, none⟩ (.string M)).setCell ⟨w.heap.size, 2, none⟩ (.string N)).setCell ⟨w.heap.size, 3, none⟩ (.string Q)) := ((((Ext.refl (fun b => b = w.heap.size) w4).setAt (b := w.heap.size) (.inr rfl) _).setAt (b := w.heap.size) (.inr rfl) _).setAt (b := w.heap.size) (.inr rfl) _).setAt (b := w.heap.size) (.inr rfl) _
  refine bodyPost_ret (v := .tuple #[.slice ka kn kc, .agg #[.int .i64 code, .string M, .string N, .string Q], .string ⟨#[]⟩]) (by simp [results, Tryz.results20, go_sem, ck]) rfl ⟨ka, kn, kc, _, rfl, ⟨M, N, Q, rfl, HMN.out⟩, (HROW.out.ext E4).frame fun b hb hb2 => ⟨?_, ?_⟩, (((E04.setAt (.inl (Nat.le_refl _)) _).setAt (.inl (Nat.le_refl _)) _).setAt (.inl (Nat.le_refl _)) _).setAt (.inl (Nat.le_refl _)) _⟩
  · have hb' : w2.heap.size ≤ b := hb
    exact Ef.block b hb2 (fun e => by have e' : b = w.heap.size := e; have := E2.size; omega)
  · have hb' : w2.heap.size ≤ b := hb
    omega

end Go.Proofs.YtocjfcgailkfjaaGreatDoor
end
