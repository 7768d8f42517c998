/- decodeSearchResultEntry. zzFits10 and ldapControls. -/
import Derived.Test.YtocjfcgailkfjaaGreatDoorMJ3
import Derived.Test.YtocjfcgailkfjaaGreatDoorMJ4
import Derived.Test.YtocjfcgailkfjaaGreatDoorMH1

set_option linter.unusedVariables false
set_option linter.unusedSimpArgs false
set_option linter.unusedSectionVars false

section
namespace Go.Proofs.YtocjfcgailkfjaaGreatDoor
open Go.RowKit

theorem entry_parts {w : World} {S : Nat → Prop} {name : List UInt8} {l : List AT} {q : Nat} (h : PkAt ValOk w S (entryT name l) q) : ∃ enc qn qa enc2 pas, PkOwn w S q 64 32 4 .nilIface enc [qn, qa] ∧ PkOwn w S qn 0 0 4 (.iface 9 (.string (strOf name))) name [] ∧ PkOwn w S qa 0 32 16 .nilIface enc2 pas ∧ PkAtL ValOk w S (l.map attrT) pas := by
  unfold entryT PkAt at h
  obtain ⟨ps, h1, h2⟩ := h
  match ps, h2 with
  | [qn, qv], h2 =>
    simp only [PkAtL, PkAt, and_true] at h2
    obtain ⟨⟨v0, a0, b0⟩, ⟨pvs, a1, b1⟩⟩ := h2
    rw [b0.str] at a0
    exact ⟨_, qn, qv, _, pvs, h1, a0, a1, b1⟩
  | [], h2 => simp [PkAtL] at h2
  | [_], h2 => simp [PkAtL] at h2
  | _ :: _ :: _ :: _, h2 => simp [PkAtL] at h2

theorem Row.keep {E k : Nat} {w w' : World} {S : Nat → Prop} {sl : Value} {vs : List (List Value)} (h : Row E k w S sl vs) (hk : ∀ (b : Nat) (cs : Array Value) (f : Nat × Nat), w.heap[b]? = some (Obj.cells cs E f) → w'.heap[b]? = some (Obj.cells cs E f)) : Row E k w' S sl vs := by
  rcases h with h | ⟨g, cap, cur, h1, h2, h3, h4⟩
  · exact .inl h
  · exact .inr ⟨g, cap, cur, h1, h2, hk _ _ _ h3, h4⟩
theorem Row.desc {E k : Nat} {w w' : World} {S S' : Nat → Prop} {sl : Value} {vs : List (List Value)} (h : Row E k w S sl vs) (D : Desc S' w w') (hE : E ≠ 220) : Row E k w' S sl vs := h.keep fun _ _ _ hb => D.get hb hE
theorem AttrPtrs.keep {w w' : World} {l : List AT} {vs : List (List Value)} (h : AttrPtrs w l vs) (hk : ∀ (b : Nat) (cs : Array Value) (T : TypeId) (f : Nat × Nat), w.heap[b]? = some (Obj.cells cs T f) → (T = 106 ∨ T = 9) → w'.heap[b]? = some (Obj.cells cs T f)) : AttrPtrs w' l vs :=
  ⟨h.1, fun i x hi => by obtain ⟨r, bV, bv, h1, h2, h3⟩ := h.2 i x hi; exact ⟨r, bV, bv, h1, hk _ _ _ _ h2 (.inl rfl), hk _ _ _ _ h3 (.inr rfl)⟩⟩

/-- What it gives. -/
def DecE (w : World) (S : Nat → Prop) (name : List UInt8) (l : List AT) (cs : List (UC × Bool)) (e : Ending) (w' : World) : Prop :=
  ∃ R B sa sn sc ta tn tc vs us, e = .returned (.tuple #[.pointer (some ⟨R, 0, none⟩), .nilIface]) ∧ w'.heap[R]? = some (.cells #[.pointer (some ⟨B, 0, none⟩), .string ⟨#[]⟩, .slice ta tn tc, .nilIface] 102 (0, 0)) ∧
    w'.heap[B]? = some (.cells #[.string (strOf name), .slice sa sn sc] 98 (0, 0)) ∧ Row 103 1 w' (fun b => w.heap.size ≤ b) (.slice sa sn sc) vs ∧ AttrPtrs w' l vs ∧ Row 128 1 w' (fun b => w.heap.size ≤ b) (.slice ta tn tc) us ∧ IfRow w' (cs.map Prod.fst) us ∧ Ext S w w'

set_option maxHeartbeats 1000000 in
set_option maxRecDepth 100000 in
theorem decodeEntry_any (w : World) (S : Nat → Prop) (hS : ∀ b, S b → b < w.heap.size) (p : Nat) (bs name : List UInt8) (l : List AT) (cs : List (UC × Bool)) (hk : ∀ x ∈ cs, ∃ rest, x.1.1 = 49 :: 46 :: 50 :: 46 :: 51 :: rest) (hl : l.length ≤ 1000) (hv : ∀ x ∈ l, x.2.length ≤ 1000) (hcl : cs.length ≤ 1000)
    (h : PkAt ValOk w S (msgT bs (entryT name l) (cs.map ctlTree)) p) :
    Calls Tryz.prog 64 #[.pointer (some ⟨p, 0, none⟩)] w (DecE w S name l cs) := by
  obtain ⟨enc, q0, q1, hop, hrest⟩ := msg_parts h
  obtain ⟨enc1, qn, qa, enc2, pas, h1, h2, h3, h4⟩ := entry_parts hop
  have HREST := Lib.hid hrest
  obtain ⟨ps, hps, hps1⟩ : ∃ ps, PkOwn w S p 0 32 16 .nilIface enc ps ∧ ps[1]? = some q1 := by
    rcases hrest with ⟨_, hr⟩ | ⟨_, q2, enc2, pcs, hr, _⟩
    · exact ⟨_, hr, rfl⟩
    · exact ⟨_, hr, rfl⟩
  have HP := Lib.hid hps
  have HP1 := Lib.hid hps1
  have H1 := Lib.hid h1
  have H2 := Lib.hid h2
  have H3 := Lib.hid h3
  have H4 := Lib.hid h4
  have HS := Lib.hid hS
  have HK := Lib.hid hk
  have HV := Lib.hid hv
  have hal : pas.length = l.length := by have := PkAtL.length _ _ h4; simpa using this
  have HAL := Lib.hid hal
  clear h hop hrest hps hps1 h1 h2 h3 h4 hS hk hv hal
  go_enter Tryz.func64, Tryz.ntmps64
  go_wp2_with fail
  refine (packetChild_any w S p 0 32 16 .nilIface enc ps 1 q1 1 rfl HP.out HP1.out).mono ?_
  rintro e w1 ⟨rfl, rfl⟩
  go_wp2_with fail
  refine (packetChild_any w S q1 64 32 4 .nilIface enc1 [qn, qa] 1 qa 1 rfl H1.out rfl).mono ?_
  rintro e w1 ⟨rfl, rfl⟩
  obtain ⟨da, rowa, bva, ga, cha, dsa, hpa, -, hcha, -⟩ := H3.out
  have hcha2 := hcha
  obtain ⟨capa, cura, rfl, hga, -, hlca, hcma, -⟩ := hcha2
  obtain ⟨na, hna⟩ : ∃ na, pas.length = na := ⟨_, rfl⟩
  rw [hna] at hpa hcha
  have ca := Lib.cell_of_heap hpa
  have HU := Lib.hid (unpack_any w S ga na capa l pas hcha (HAL.out.symm.trans hna) (by rw [← hna, HAL.out]; exact hl) HV.out H4.out)
  clear hpa hcha hga hlca hcma hna
  go_wp2_with fail
  refine HU.out.mono ?_
  rintro e w1 ⟨sa, sn, sc, vs, rfl, hrow, hat, E1⟩
  have HROW := Lib.hid hrow
  have HAT := Lib.hid hat
  clear hrow hat HU ca
  go_wp2_with fail
  refine (packetStringAt_any w1 S q1 64 32 4 .nilIface enc1 [qn, qa] 0 qn 0 rfl (H1.out.ext E1) rfl S 0 0 4 (strOf name) name [] (H2.out.ext E1)).mono ?_
  rintro e w2 ⟨rfl, rfl⟩
  go_wp2_with fail
  have h2n := two_new w1 (.cells #[.string (strOf name), .slice sa sn sc] 98 (0, 0)) (.cells #[.pointer (some ⟨w1.heap.size, 0, none⟩), .string ⟨#[]⟩, .slice none 0 0, .nilIface] 102 (0, 0))
  refine cutC (fun W => W.heap[w1.heap.size]? = some (.cells #[.string (strOf name), .slice sa sn sc] 98 (0, 0)) ∧ W.heap[w1.heap.size + 1]? = some (.cells #[.pointer (some ⟨w1.heap.size, 0, none⟩), .string ⟨#[]⟩, .slice none 0 0, .nilIface] 102 (0, 0)) ∧ Ext none_ w1 W) h2n ?_
  clear h2n
  rintro W ⟨k1, k2, E2⟩
  have E02 := E1.trans E2
  have s01 := E1.size
  rcases HREST.out with ⟨hc, hp⟩ | ⟨hc, q2, enc3, pcs, hp, hq2, hpc⟩
  · -- no controls
    have hcs : cs = [] := by simpa using hc
    clear hc
    have K1 := Lib.hid k1
    have K2 := Lib.hid k2
    clear k1 k2
    refine (packetChildIf_no W S p 0 32 16 .nilIface enc [q0, q1] 2 2 rfl (hp.ext E02) (by simp) (by omega)).mono ?_
    clear hp
    rintro e w2 ⟨rfl, rfl⟩
    go_wp2_with fail
    refine bodyPost_ret (v := .tuple #[.pointer (some ⟨w1.heap.size + 1, 0, none⟩), .nilIface]) (by simp [results, Tryz.results64]) rfl ⟨w1.heap.size + 1, w1.heap.size, sa, sn, sc, none, 0, 0, vs, [], rfl, K2.out, K1.out, HROW.out.ext E2, HAT.out.ext E2 (fun _ _ _ _ _ _ h => h), .inl ⟨rfl, rfl⟩, ?_, Ext.zero E02⟩
    subst hcs
    exact ⟨rfl, fun i x hi => by simp at hi⟩
  · have HPC := Lib.hid hpc
    have hpcl : pcs.length = cs.length := by have := PkAtL.length _ _ hpc; simpa using this
    obtain ⟨dq, rowq, bvq, gq, chq, dsq, hpq, -, hchq, -, -, -, hSg, -⟩ := hq2.ext E02
    have hgqS := HS.out gq hSg
    obtain ⟨capq, curq, rfl, hgq, -, hlcq, hcmq, hcurq⟩ := hchq
    obtain ⟨nq, hnq⟩ : ∃ nq, pcs.length = nq := ⟨_, rfl⟩
    rw [hnq] at hpq hlcq
    have cq := Lib.cell_of_heap hpq
    have HGQ := Lib.hid hgq
    have HCQ := Lib.hid hcurq
    have HNC := Lib.hid (hpcl.symm.trans hnq)
    unfold maxLen at hcmq
    have hnq2 : nq ≤ 1000 := by rw [← hnq, hpcl]; exact hcl
    have HST0 : Hid (CtlSt W W S none_ (w1.heap.size + 1) 102 (fun a => #[.pointer (some ⟨w1.heap.size, 0, none⟩), .string ⟨#[]⟩, a, .nilIface]) cs pcs 0 (.slice none 0 0)) :=
      Lib.hid ⟨[], .inl ⟨rfl, rfl⟩, ⟨rfl, fun i x hi => by simp at hi⟩, k2, PkAtL.frame (fun b hb hb2 => ⟨E02.block b hb2 (fun h => h), hb⟩) _ _ hpc, Ext.refl _ _, fun _ _ _ _ h _ _ _ => h⟩
    have K1 := Lib.hid k1
    have K2 := Lib.hid k2
    have s1 := lt_of_block k2
    clear hSg k1 k2 hpc hpcl hgq hcurq hnq hc hq2 hpq
    refine (packetChildIf_yes W S p 0 32 16 .nilIface enc [q0, q1, q2] 2 q2 2 rfl (hp.ext E02) rfl).mono ?_
    clear hp
    rintro e w2 ⟨rfl, rfl⟩
    go_wp2_with fail
    clear cq
    obtain ⟨w2, rfl⟩ : ∃ w2 : World, w2 = W := ⟨_, rfl⟩
    go_loopw [74] (fun v74 W => ∃ j sa sn sc, j ≤ nq ∧ v74 = .int .i64 (j : Nat) ∧ Hid (CtlSt w2 W S none_ (w1.heap.size + 1) 102 (fun a => #[.pointer (some ⟨w1.heap.size, 0, none⟩), .string ⟨#[]⟩, a, .nilIface]) cs pcs j (.slice sa sn sc))) (fun v74 _ => nq - (intOf v74).toNat)
    case atStart => exact ⟨0, none, 0, 0, by omega, rfl, HST0⟩
    case round =>
      obtain ⟨j, ta, tn, tc, hj, rfl, H⟩ := hrel
      clear HST0
      by_cases hlt : j < nq
      · have hji : (j : Int) < (nq : Int) := by omega
        obtain ⟨x, hx⟩ : ∃ x, cs[j]? = some x := ⟨cs[j]'(by have := HNC.out; omega), List.getElem?_eq_getElem _⟩
        obtain ⟨us, hrow, hif, hRb, hpk, E, KT⟩ := H.out
        obtain ⟨q, hq, hqp⟩ := PkAtL.get _ _ j (ctlTree x) hpk (by simp [hx])
        have hc1 : wr.cell? ⟨gq, j, none⟩ = some (.pointer (some ⟨q, 0, none⟩)) := by
          rw [Lib.cell_of_heap (KT _ _ _ _ HGQ.out (by decide) (by decide) (by omega))]; exact HCQ.out j q hq
        obtain ⟨rest, hkx⟩ := HK.out x (List.mem_of_getElem? hx)
        have HD := Lib.hid (decode_any wr S q x.1.1 x.1.2.2 rest x.1.2.1 x.2 (Lib.hid hkx) hqp)
        have hlen : us.length ≤ 100000 := by rw [hif.1, List.length_map, List.length_take]; omega
        have HX := Lib.hid hx
        have HROWC := Lib.hid hrow
        have HIF := Lib.hid hif
        have HRB := Lib.hid hRb
        have HPK := Lib.hid hpk
        have HKT := Lib.hid KT
        clear hx hrow hif hRb hpk KT hq hqp hkx H
        go_wp2_with fail
        refine HD.out.mono ?_
        rintro e w3 ⟨g, rfl, hg, hgl, D⟩
        have hRb2 := D.get HRB.out (by decide)
        have cR := Lib.cell_of_heap hRb2
        have Ea := (Ext.refl none_ w3).alloc (.cells #[.iface 203 (.pointer (some ⟨g, 0, none⟩))] 128)
        obtain ⟨za, zn, zc, W3, hrun, hrowE, EE⟩ := append_if _ _ (.slice ta tn tc) us w3.heap.size [.iface 203 (.pointer (some ⟨g, 0, none⟩))] rfl ((HROWC.out.desc D (by decide)).ext Ea) (heap_new w3 _) (by simp [Value.oneCell']) hlen
        rw [World.size_alloc] at hrowE
        obtain ⟨hRb3, HSTn⟩ := ctl_step (c := 2) (T := 102) (f := fun a => #[.pointer (some ⟨w1.heap.size, 0, none⟩), .string ⟨#[]⟩, a, .nilIface]) HX.out (fun h => by have := HS.out _ h; omega) (fun b hb => ⟨fun h => h, by have := HS.out b hb; have := E02.size; omega⟩) s1 ⟨by decide, by decide, by decide⟩ (fun _ _ => rfl) HROWC.out HIF.out HRB.out HPK.out E HKT.out D hg hrowE EE
        have cR3 := Lib.cell_of_heap hRb3
        have fR3 := Lib.frozen_of_heap hRb3
        have HSTN := Lib.hid HSTn
        clear hRb2 hRb3 HSTn hrowE EE hg D Ea E
        go_wp2_with (at_builtin; refine Lib.wpList_append_run _ rfl _ _ _ _ rfl _ _ rfl rfl _ _ hrun ?_)
        go_roundw
        case rel =>
          first
            | exact ⟨j + 1, za, zn, zc, by omega, by go_num, HSTN⟩
            | (repeat apply Exists.intro
               exact ⟨⟨j + 1, za, zn, zc, by omega, by go_num, HSTN⟩, rfl⟩)
        case measure => simp [intOf]; omega
      · have hji : ¬ (j : Int) < (nq : Int) := by omega
        obtain rfl : j = nq := by omega
        obtain ⟨us, hrow, hif, hRb, hpk, E, KT⟩ := H.out
        rw [List.take_of_length_le (by have := HNC.out; omega)] at hif
        have HROWC := Lib.hid hrow
        have HIF := Lib.hid hif
        have HRB := Lib.hid hRb
        have HKT := Lib.hid KT
        clear hrow hif hRb hpk KT H
        go_wp2_with fail
        have s02 := E02.size
        refine bodyPost_ret (v := .tuple #[.pointer (some ⟨w1.heap.size + 1, 0, none⟩), .nilIface]) (by simp [results, Tryz.results64]) rfl ⟨w1.heap.size + 1, w1.heap.size, sa, sn, sc, ta, tn, tc, vs, us, rfl, HRB.out, HKT.out _ _ _ _ K1.out (by decide) (by decide) (by omega), (HROW.out.ext E2).keep fun b cs0 f hb => HKT.out _ _ _ _ hb (by decide) (by decide) (fun e => ?_), (HAT.out.ext E2 (fun _ _ _ _ _ _ h => h)).keep fun b cs0 T f hb hT => HKT.out _ _ _ _ hb (fun e => ?_) (fun e => ?_) (fun e => ?_), HROWC.out.frame fun b hb _ => ⟨rfl, ?_⟩, HIF.out, ?_⟩
        · subst e
          rw [K2.out] at hb
          cases hb
        · rcases hT with h | h <;> (rw [e] at h; exact absurd h (by decide))
        · rcases hT with h | h <;> (rw [e] at h; exact absurd h (by decide))
        · subst e
          rw [K2.out] at hb
          cases hb
          rcases hT with h | h <;> exact absurd h (by decide)
        · rcases hb with hb | hb
          · exact hb.elim
          · omega
        · refine Ext.trans' (Ext.zero E02) E fun b hb h => ?_
          rcases h with h | h | h
          · omega
          · exact h
          · exact h.elim

end Go.Proofs.YtocjfcgailkfjaaGreatDoor
end

section
namespace Go.Proofs.YtocjfcgailkfjaaGreatDoor
open Go.RowKit

/-- A plain control: its number, whether it is critical, whether that is told, its value. -/
abbrev PCt := Nat × Bool × Bool × List UInt8
def PCRow (w : World) (a : Option Addr) (n : Nat) (l : List PCt) : Prop :=
  l.length = n ∧ (l = [] ∨ ∃ g o, a = some ⟨g, o, none⟩ ∧ g < w.heap.size ∧ ∀ (j : Nat) x, l[j]? = some x → x.1 < 256 ∧ w.cell? ⟨g, o + j * 4, none⟩ = some (.int .u8 (x.1 : Nat)) ∧ w.cell? ⟨g, o + j * 4 + 1, none⟩ = some (.bool x.2.1) ∧ w.cell? ⟨g, o + j * 4 + 2, none⟩ = some (.bool x.2.2.1) ∧ w.cell? ⟨g, o + j * 4 + 3, none⟩ = some (.string (strOf x.2.2.2)))
theorem PCRow.ext {w w' : World} {a : Option Addr} {n : Nat} {l : List PCt} (h : PCRow w a n l) (e : Ext none_ w w') : PCRow w' a n l := by
  obtain ⟨h1, h2⟩ := h
  refine ⟨h1, h2.imp (fun x => x) (fun ⟨g, o, e1, e2, e3⟩ => ⟨g, o, e1, Nat.lt_of_lt_of_le e2 e.size, fun j s hj => ?_⟩)⟩
  obtain ⟨k0, k1, k2, k3, k4⟩ := e3 j s hj
  refine ⟨k0, ?_, ?_, ?_, ?_⟩
  all_goals (rw [e.cell (p := ⟨g, _, none⟩) e2 (fun h => h)]; assumption)

set_option maxHeartbeats 400000 in
set_option maxRecDepth 100000 in
theorem zzFits11_any (w : World) (z : Int) (c t : Bool) (s : ByteArray) :
    Calls Tryz.prog 30 #[.agg #[.int .u8 z, .bool c, .bool t, .string s]] w (SomeB w) := by
  have E1 := (Ext.refl none_ w).alloc (.cells #[.int .u8 z, .bool c, .bool t, .string s] 77)
  go_enter Tryz.func30, Tryz.ntmps30
  go_wp2_with fail
  all_goals
    go_ret
    exact ⟨⟨_, rfl⟩, E1⟩

set_option maxHeartbeats 400000 in
set_option maxRecDepth 100000 in
theorem zzFits10_any (w : World) (a : Option Addr) (n c : Nat) (l : List PCt) (h : PCRow w a n l) (hn : n ≤ 9223372036854775807) :
    Calls Tryz.prog 8 #[.slice a n c] w (SomeB w) := by
  obtain ⟨hln, hl⟩ := h
  have HN := Lib.hid hln
  clear hln
  go_enter Tryz.func8, Tryz.ntmps8
  go_wp2_with fail
  · go_ret
    exact ⟨⟨_, rfl⟩, Ext.refl _ _⟩
  · go_loopw [4, 10] (fun _ v10 W => ∃ j, j ≤ n ∧ v10 = .int .i64 (j : Nat) ∧ Ext none_ w W) (fun _ v10 _ => n - (intOf v10).toNat)
    case atStart => exact ⟨0, by omega, rfl, Ext.refl _ _⟩
    case round =>
      obtain ⟨j, hj, rfl, hE⟩ := hrel
      by_cases hlt : j < n
      · have hji : (j : Int) < (n : Int) := by omega
        obtain ⟨x, hx⟩ : ∃ x, l[j]? = some x := ⟨l[j]'(by have := HN.out; omega), List.getElem?_eq_getElem _⟩
        obtain ⟨g, o, rfl, hgl, hcells⟩ := hl.resolve_left (fun e => by rw [e] at hx; simp at hx)
        obtain ⟨k0, k1, k2, k3, k4⟩ := hcells j x hx
        have r1 : wr.cell? ⟨g, o + j * 4, none⟩ = some (.int .u8 (x.1 : Nat)) := by rw [hE.cell (p := ⟨g, _, none⟩) hgl (fun h => h)]; exact k1
        have r2 : wr.cell? ⟨g, o + j * 4 + 1, none⟩ = some (.bool x.2.1) := by rw [hE.cell (p := ⟨g, _, none⟩) hgl (fun h => h)]; exact k2
        have r3 : wr.cell? ⟨g, o + j * 4 + 2, none⟩ = some (.bool x.2.2.1) := by rw [hE.cell (p := ⟨g, _, none⟩) hgl (fun h => h)]; exact k3
        have r4 : wr.cell? ⟨g, o + j * 4 + 3, none⟩ = some (.string (strOf x.2.2.2)) := by rw [hE.cell (p := ⟨g, _, none⟩) hgl (fun h => h)]; exact k4
        have E1 := (Ext.refl none_ wr).alloc (.cells #[.int .u8 (x.1 : Nat), .bool x.2.1, .bool x.2.2.1, .string (strOf x.2.2.2)] 77)
        clear hx hcells k1 k2 k3 k4
        go_wp2_with fail
        refine (zzFits11_any _ _ _ _ _).mono ?_
        rintro e w1 ⟨⟨b, rfl⟩, E2⟩
        have E3 := (hE.trans E1).trans E2
        cases b
        · go_wp2_with fail
          go_ret
          exact ⟨⟨_, rfl⟩, E3⟩
        · go_wp2_with fail
          go_roundw
          case rel => exact ⟨j + 1, by omega, by go_num, E3⟩
          case measure => simp [intOf]; omega
      · have hji : ¬ (j : Int) < (n : Int) := by omega
        go_wp2_with fail
        go_ret
        exact ⟨⟨_, rfl⟩, hE⟩

def kindOf (n : Nat) : List UInt8 := 49 :: 46 :: 50 :: 46 :: 51 :: [46, 52, 46, 48 + UInt8.ofNat (n / 10 % 10), 48 + UInt8.ofNat n % 10]
def pcU (x : PCt) : UC := (kindOf x.1, x.2.1, x.2.2.2)
def pcX (x : PCt) : UC × Bool := (pcU x, x.2.2.1)

theorem two_conv (W : World) (o : Obj) (z y : Int) : (convert 26 9 (.slice (some ⟨W.heap.size + 1, 0, none⟩) 2 2)).run Tryz.prog ((W.alloc o).alloc (.cells #[.int .u8 z, .int .u8 y] 5)) = .ok (.string (strOf [UInt8.ofNat z.toNat, UInt8.ofNat y.toNat])) ((W.alloc o).alloc (.cells #[.int .u8 z, .int .u8 y] 5)) := by
  have h := heap_new (W.alloc o) (.cells #[.int .u8 z, .int .u8 y] 5)
  rw [World.size_alloc] at h
  rw [run_convert_bytes_string _ 26 9 5 _ 2 2 Tryz.underlying26 Tryz.underlying5 Tryz.underlying9, run_bytesToString _ ⟨W.heap.size + 1, 0, none⟩ 2 2 [z, y] (by
    have := run_loadCells_list (P := Tryz.prog) ((W.alloc o).alloc (.cells #[.int .u8 z, .int .u8 y] 5)) ⟨W.heap.size + 1, 0, none⟩ ([z, y].map (Value.int .u8)) (fun j v hj => by
      rw [Lib.addr_add, Lib.cell_of_heap h, Nat.zero_add]
      simpa using hj)
    simpa using this)]
  rfl

theorem BerRow.keepT {w w' : World} {S S' : Nat → Prop} {sl : Value} {vs : List Value} (h : BerRow w S sl vs) (hk : ∀ (b : Nat) (cs : Array Value) (f : Nat × Nat), S b → w.heap[b]? = some (Obj.cells cs 43 f) → w'.heap[b]? = some (Obj.cells cs 43 f) ∧ S' b) : BerRow w' S' sl vs := by
  rcases h with h | ⟨g, cap, cur, h1, h2, h3, h4⟩
  · exact .inl h
  · exact .inr ⟨g, cap, cur, h1, (hk g _ _ h2 h3).2, (hk g _ _ h2 h3).1, h4⟩
mutual
theorem BerV.keepT {w w' : World} {S S' : Nat → Prop} (hk : ∀ (b : Nat) (cs : Array Value) (f : Nat × Nat), S b → w.heap[b]? = some (Obj.cells cs 43 f) → w'.heap[b]? = some (Obj.cells cs 43 f) ∧ S' b) : ∀ (t : T) (v : Value), BerV w S t v → BerV w' S' t v
  | .prim cls tag data, v, h => by unfold BerV at h ⊢; exact h
  | .cons cls tag kids, v, h => by
    unfold BerV at h ⊢
    obtain ⟨sl, vs, h1, h2, h3⟩ := h
    exact ⟨sl, vs, h1, h2.keepT hk, BerVL.keepT hk kids vs h3⟩
theorem BerVL.keepT {w w' : World} {S S' : Nat → Prop} (hk : ∀ (b : Nat) (cs : Array Value) (f : Nat × Nat), S b → w.heap[b]? = some (Obj.cells cs 43 f) → w'.heap[b]? = some (Obj.cells cs 43 f) ∧ S' b) : ∀ (ts : List T) (vs : List Value), BerVL w S ts vs → BerVL w' S' ts vs
  | [], [], _ => by unfold BerVL; trivial
  | t :: ts, v :: vs, h => by
    unfold BerVL at h ⊢
    exact ⟨BerV.keepT hk t v h.1, BerVL.keepT hk ts vs h.2⟩
  | [], _ :: _, h => by unfold BerVL at h; exact h.elim
  | _ :: _, [], h => by unfold BerVL at h; exact h.elim
end
theorem BerRow.ownT {w : World} {S : Nat → Prop} {sl : Value} {vs : List Value} (h : BerRow w S sl vs) {b : Nat} (hb : sl.ownBlock = some b) : S b ∧ ∃ cur, w.heap[b]? = some (.cells cur 43 (0, 0)) := by
  rcases h with ⟨rfl, _⟩ | ⟨g, cap, cur, rfl, hS, hg, _⟩
  · simp [Value.ownBlock] at hb
  · simp [Value.ownBlock] at hb; subst hb; exact ⟨hS, cur, hg⟩

def CSt (w W : World) (l : List PCt) (j : Nat) (sl5 sl6 : Value) : Prop :=
  ∃ vs5, BerRow W (fun x => w.heap.size ≤ x) sl5 vs5 ∧ BerVL W (fun x => w.heap.size ≤ x ∧ sl5.ownBlock ≠ some x) ((l.take j).map fun x => ctlTree (pcX x)) vs5 ∧ Row 65 12 W (fun x => w.heap.size ≤ x) sl6 ((l.take j).map fun x => c12 (pcU x)) ∧ Ext none_ w W

theorem cs_step {w wr wB wC W5 W6 : World} {l : List PCt} {j : Nat} {sl5 sl6 sl5' sl6' v : Value} {x : PCt} {vs5 : List Value} {o5 o6 : Obj} (hx : l[j]? = some x)
    (hrow : BerRow wr (fun x => w.heap.size ≤ x) sl5 vs5) (hvl : BerVL wr (fun x => w.heap.size ≤ x ∧ sl5.ownBlock ≠ some x) ((l.take j).map fun x => ctlTree (pcX x)) vs5) (hrow6 : Row 65 12 wr (fun x => w.heap.size ≤ x) sl6 ((l.take j).map fun x => c12 (pcU x))) (E : Ext none_ w wr)
    (E1 : Ext none_ wr wB) (E2 : Ext none_ wB wC) (hv : BerV wC (fun x => wB.heap.size ≤ x) (ctlTree (pcX x)) v)
    (hr5 : BerRow W5 (fun b => sl5.ownBlock = some b ∨ wC.heap.size + 1 ≤ b) sl5' (vs5 ++ [v])) (E5 : Ext (fun b => sl5.ownBlock = some b) (wC.alloc o5) W5)
    (hr6 : Row 65 12 W6 (fun b => sl6.ownBlock = some b ∨ W5.heap.size + 1 ≤ b) sl6' (((l.take j).map fun x => c12 (pcU x)) ++ [c12 (pcU x)])) (E6 : Ext (fun b => sl6.ownBlock = some b) (W5.alloc o6) W6) : CSt w W6 l (j + 1) sl5' sl6' := by
  have s0 := E.size
  have s1 := E1.size
  have s2 := E2.size
  have s5 := E5.size
  rw [World.size_alloc] at s5
  have own5 : ∀ b, sl5.ownBlock = some b → w.heap.size ≤ b ∧ b < wr.heap.size := fun b hb => by
    obtain ⟨h1, cur, h2⟩ := hrow.ownT hb
    exact ⟨h1, lt_of_block h2⟩
  have own6 := hrow6.own
  have Ea := (Ext.refl none_ wC).alloc o5
  have Eb := (Ext.refl none_ W5).alloc o6
  have E3 : Ext none_ wr (wC.alloc o5) := (E1.trans E2).trans Ea
  have own6T : ∀ b, sl6.ownBlock = some b → ∃ cur, (W5.alloc o6).heap[b]? = some (.cells cur 65 (0, 0)) := fun b hb => by
    obtain ⟨cur, h⟩ := hrow6.ownT hb
    have h3 := E3.get h (fun h => h)
    exact ⟨cur, Eb.get (E5.get h3 (fun e => by
      obtain ⟨_, cur', h'⟩ := hrow.ownT e
      have := E3.get h' (fun h => h)
      rw [h3] at this
      cases this)) (fun h => h)⟩
  have k56 : ∀ (b : Nat) (cs : Array Value) (f : Nat × Nat), W5.heap[b]? = some (Obj.cells cs 43 f) → W6.heap[b]? = some (Obj.cells cs 43 f) := fun b cs f hb => E6.get (Eb.get hb (fun h => h)) (fun e => by
    obtain ⟨cur, h⟩ := own6T b e
    rw [Eb.get hb (fun h => h)] at h
    cases h)
  have own5' : ∀ b, sl5'.ownBlock = some b → sl5.ownBlock = some b ∨ wC.heap.size + 1 ≤ b := fun b hb => (hr5.ownT hb).1
  refine ⟨_, hr5.keepT fun b cs f hb hb2 => ⟨k56 b cs f hb2, ?_⟩, ?_, ?_, ?_⟩
  · rcases hb with hb | hb
    · exact (own5 b hb).1
    · omega
  · rw [List.take_add_one, hx, List.map_append]
    refine BerVL.snoc (hv.keepT fun b cs f hb hb2 => ?_) _ _ (hvl.keepT fun b cs f hb hb2 => ?_)
    · have hbl := lt_of_block hb2
      have hn : ¬ sl5.ownBlock = some b := fun e => by have := (own5 b e).2; omega
      refine ⟨k56 b cs f (E5.get (Ea.get hb2 (fun h => h)) hn), by omega, fun e => ?_⟩
      rcases own5' b e with h | h
      · exact hn h
      · omega
    · have hbl := lt_of_block hb2
      refine ⟨k56 b cs f (E5.get (E3.get hb2 (fun h => h)) hb.2), hb.1, fun e => ?_⟩
      rcases own5' b e with h | h
      · exact hb.2 h
      · omega
  · rw [List.take_add_one, hx, List.map_append]
    refine hr6.frame fun b hb hb2 => ⟨rfl, ?_⟩
    rcases hb with hb | hb
    · exact (own6 b hb).1
    · omega
  · exact (((E.trans E3).trans' E5 (fun b hb h => by have := (own5 b h).1; omega)).trans Eb).trans' E6 (fun b hb h => by
      have h1 := (own6 b h).1
      omega)

/-- What ldapControls gives. -/
def LCt (w : World) (l : List PCt) (e : Ending) (w' : World) : Prop :=
  (∃ s5 s6, e = .returned (.tuple #[s5, s6, .bool false]) ∧ Ext none_ w w') ∨
  ∃ a5 n5 c5 a6 n6 c6 vs5, e = .returned (.tuple #[.slice a5 n5 c5, .slice a6 n6 c6, .bool true]) ∧ (l.length ≤ 4 ∧ ∀ x ∈ l, x.1 < 256 ∧ x.2.2.2.length ≤ 40) ∧ BerRow w' (fun x => w.heap.size ≤ x) (.slice a5 n5 c5) vs5 ∧ BerVL w' (fun x => w.heap.size ≤ x) (l.map fun x => ctlTree (pcX x)) vs5 ∧ Row 65 12 w' (fun x => w.heap.size ≤ x) (.slice a6 n6 c6) (l.map fun x => c12 (pcU x)) ∧ Ext none_ w w'

set_option maxHeartbeats 1000000 in
set_option maxRecDepth 100000 in
theorem ldapControls_any (w : World) (a : Option Addr) (n c : Nat) (l : List PCt) (h : PCRow w a n l) (hn : n ≤ 9223372036854775807) (hs : ∀ x ∈ l, x.2.2.2.length ≤ 9223372036854775807) :
    Calls Tryz.prog 9 #[.slice a n c] w (LCt w l) := by
  obtain ⟨hln, hl⟩ := h
  have HN := Lib.hid hln
  have HSZ := Lib.hid hs
  clear hln hs
  by_cases h4 : n ≤ 4
  · have h4i : ¬ (4 : Int) < (n : Int) := by omega
    go_enter Tryz.func9, Tryz.ntmps9
    go_wp2_with fail
    have HST0 : Hid (CSt w w l 0 (.slice none 0 0) (.slice none 0 0)) := Lib.hid ⟨[], .inl ⟨rfl, rfl⟩, by simp [BerVL], .inl ⟨rfl, by simp⟩, Ext.refl _ _⟩
    go_loopw [5, 6, 8, 9, 15] (fun v5 v6 _ _ v15 W => ∃ j a5 n5 c5 a6 n6 c6, j ≤ n ∧ v15 = .int .i64 (j : Nat) ∧ v5 = .slice a5 n5 c5 ∧ v6 = .slice a6 n6 c6 ∧ Hid (CSt w W l j (.slice a5 n5 c5) (.slice a6 n6 c6)) ∧ Hid (∀ x ∈ l.take j, x.1 < 256 ∧ x.2.2.2.length ≤ 40)) (fun _ _ _ _ v15 _ => n - (intOf v15).toNat)
    case atStart => exact ⟨0, none, 0, 0, none, 0, 0, by omega, rfl, rfl, rfl, HST0, Lib.hid (by simp)⟩
    case round =>
      obtain ⟨j, a5, n5, c5, a6, n6, c6, hj, rfl, rfl, rfl, H, HB⟩ := hrel
      clear HST0
      obtain ⟨vs5, hrow5, hvl5, hrow6, hE⟩ := H.out
      by_cases hlt : j < n
      · have hji : (j : Int) < (n : Int) := by omega
        obtain ⟨x, hx⟩ : ∃ x, l[j]? = some x := ⟨l[j]'(by have := HN.out; omega), List.getElem?_eq_getElem _⟩
        obtain ⟨g, o, rfl, hgl, hcells⟩ := hl.resolve_left (fun e => by rw [e] at hx; simp at hx)
        obtain ⟨k0, k1, k2, k3, k4⟩ := hcells j x hx
        have r1 : wr.cell? ⟨g, o + j * 4, none⟩ = some (.int .u8 (x.1 : Nat)) := by rw [hE.cell (p := ⟨g, _, none⟩) hgl (fun h => h)]; exact k1
        have r2 : wr.cell? ⟨g, o + j * 4 + 1, none⟩ = some (.bool x.2.1) := by rw [hE.cell (p := ⟨g, _, none⟩) hgl (fun h => h)]; exact k2
        have r3 : wr.cell? ⟨g, o + j * 4 + 2, none⟩ = some (.bool x.2.2.1) := by rw [hE.cell (p := ⟨g, _, none⟩) hgl (fun h => h)]; exact k3
        have r4 : wr.cell? ⟨g, o + j * 4 + 3, none⟩ = some (.string (strOf x.2.2.2)) := by rw [hE.cell (p := ⟨g, _, none⟩) hgl (fun h => h)]; exact k4
        have hsz : (strOf x.2.2.2).size ≤ 9223372036854775807 := by rw [strOf_size]; exact HSZ.out x (List.mem_of_getElem? hx)
        have hlen5 : vs5.length ≤ 100000 := by
          have := BerVL.length _ _ hvl5
          rw [this, List.length_map, List.length_take]; omega
        have HX := Lib.hid hx
        have HR5 := Lib.hid hrow5
        have HVL5 := Lib.hid hvl5
        have HR6 := Lib.hid hrow6
        clear hx hcells k1 k2 k3 k4 hrow5 hvl5 hrow6 H
        have h2c := two_conv wr (.cells #[.int .u8 (x.1 : Nat), .bool x.2.1, .bool x.2.2.1, .string (strOf x.2.2.2)] 77)
        have hx255 : (x.1 : Int) ≤ 255 := by omega
        have hcat : ((⟨#[49, 46, 50, 46, 51, 46, 52, 46]⟩ : ByteArray) ++ strOf [48 + UInt8.ofNat (x.1 / 10 % 10), 48 + UInt8.ofNat x.1 % 10]) = strOf (kindOf x.1) := strOf_append [49, 46, 50, 46, 51, 46, 52, 46] [48 + UInt8.ofNat (x.1 / 10 % 10), 48 + UInt8.ofNat x.1 % 10]
        have hn2 := two_new wr (.cells #[.int .u8 (x.1 : Nat), .bool x.2.1, .bool x.2.2.1, .string (strOf x.2.2.2)] 77 (0, 0)) (.cells #[.int .u8 (48 + (x.1 : Nat) / 10 % 10), .int .u8 (48 + (x.1 : Nat) % 10)] 5 (0, 0))
        have HN2 := Lib.hid hn2
        clear hn2
        go_wp2_with fail
        · go_ret3
          exact .inl ⟨_, _, rfl, hE.alloc _⟩
        · have hle40 : x.2.2.2.length ≤ 40 := by
            have h := ‹((strOf x.2.2.2).size : Int) ≤ 40›
            rw [strOf_size] at h
            omega
          clear h2c hcat
          refine cutC (fun W => W.heap[wr.heap.size]? = some (.cells #[.int .u8 (x.1 : Nat), .bool x.2.1, .bool x.2.2.1, .string (strOf x.2.2.2)] 77 (0, 0)) ∧ Ext none_ wr W) ⟨HN2.out.1, HN2.out.2.2⟩ ?_
          clear HN2
          rintro wB ⟨hbx, E1⟩
          refine (ldapControl_any wB (kindOf x.1) x.2.2.2 x.2.1 x.2.2.1 wr.heap.size 3 (by rw [Lib.cell_of_heap hbx]; rfl)).mono ?_
          rintro e wC ⟨v, rfl, hbv, E2⟩
          obtain ⟨kcls, kb, ktag, kdata, ksa, ksn, ksc, rfl⟩ := hbv.shape
          have Ea := (Ext.refl none_ wC).alloc (.cells #[.int .u8 kcls, .bool kb, .int .u64 ktag, .string kdata, .slice ksa ksn ksc] 43)
          have E3 : Ext none_ wr (wC.alloc (.cells #[.int .u8 kcls, .bool kb, .int .u64 ktag, .string kdata, .slice ksa ksn ksc] 43)) := (E1.trans E2).trans Ea
          obtain ⟨za, zn, zc, W5, hrun1, hr5, E5⟩ := append_ber _ _ (.slice a5 n5 c5) vs5 wC.heap.size _ _ _ _ _ (Ext.row E3 HR5.out) (heap_new wC _) (by simp [Value.oneCell']) hlen5
          rw [World.size_alloc] at hr5
          have own5 : ∀ b, (Value.slice a5 n5 c5).ownBlock = some b → b < wr.heap.size ∧ ∃ cur, (wC.alloc (.cells #[.int .u8 kcls, .bool kb, .int .u64 ktag, .string kdata, .slice ksa ksn ksc] 43)).heap[b]? = some (.cells cur 43 (0, 0)) := fun b hb => by
            obtain ⟨_, cur, h⟩ := HR5.out.ownT hb
            exact ⟨lt_of_block h, cur, E3.get h (fun h => h)⟩
          have hbx5 := E5.get (Ea.get (E2.get hbx (fun h => h)) (fun h => h)) (fun e => by have := (own5 _ e).1; omega)
          have cbx5 := Lib.cell_of_heap hbx5
          have Eb := (Ext.refl none_ W5).alloc (.cells #[.int .i64 0, .string (strOf (kindOf x.1)), .bool x.2.1, .bool false, .int .i64 0, .int .i64 0, .int .i64 0, .string ⟨#[]⟩, .string (strOf x.2.2.2), .string ⟨#[]⟩, .slice none 0 0, .slice none 0 0] 65)
          have hr6 : Row 65 12 (W5.alloc (.cells #[.int .i64 0, .string (strOf (kindOf x.1)), .bool x.2.1, .bool false, .int .i64 0, .int .i64 0, .int .i64 0, .string ⟨#[]⟩, .string (strOf x.2.2.2), .string ⟨#[]⟩, .slice none 0 0, .slice none 0 0] 65)) (fun b => w.heap.size ≤ b) (.slice a6 n6 c6) ((l.take j).map fun x => c12 (pcU x)) :=
            (HR6.out.ext E3).keep (fun b cs f hb => Eb.get (E5.get hb (fun e => by
              obtain ⟨_, cur, h⟩ := own5 b e
              rw [hb] at h
              cases h)) (fun h => h))
          obtain ⟨ya, yn, yc, W6, hrun2, hrE6, E6⟩ := append_ctl _ _ (.slice a6 n6 c6) _ W5.heap.size (c12 (pcU x)) rfl hr6 (heap_new W5 _) (by simp [c12, ctl12, Value.oneCell']) (by rw [List.length_map, List.length_take]; omega)
          rw [World.size_alloc] at hrE6
          have HF := Lib.hid (cs_step HX.out HR5.out HVL5.out HR6.out hE E1 E2 hbv hr5 E5 hrE6 E6)
          have hle : ∀ y ∈ l.take (j + 1), y.1 < 256 ∧ y.2.2.2.length ≤ 40 := fun y hy => by
            rw [List.take_add_one, HX.out] at hy
            rcases List.mem_append.1 hy with hy | hy
            · exact HB.out y hy
            · simp at hy
              rw [hy]; exact ⟨k0, hle40⟩
          have HLE := Lib.hid hle
          clear hbx hbx5 hbv E1 E2 Ea E3 hr5 E5 own5 Eb hr6 hrE6 E6 hle r1 r2 r3 r4
          go_wp2_with (at_builtin; first | refine Lib.wpList_append_run _ rfl _ _ _ _ rfl _ _ rfl rfl _ _ hrun1 ?_ | refine Lib.wpList_append_run _ rfl _ _ _ _ rfl _ _ rfl rfl _ _ hrun2 ?_)
          go_roundw
          case rel =>
            first
              | exact ⟨j + 1, za, zn, zc, ya, yn, yc, by omega, by go_num, rfl, rfl, HF, HLE⟩
              | (repeat apply Exists.intro
                 exact ⟨⟨j + 1, za, zn, zc, ya, yn, yc, by omega, by go_num, rfl, rfl, HF, HLE⟩, rfl⟩)
          case measure => simp [intOf]; omega
      · have hji : ¬ (j : Int) < (n : Int) := by omega
        obtain rfl : j = n := by omega
        rw [List.take_of_length_le (by have := HN.out; omega)] at hvl5 hrow6
        have hb := HB.out
        rw [List.take_of_length_le (by have := HN.out; omega)] at hb
        have HR5 := Lib.hid hrow5
        have HVL5 := Lib.hid hvl5
        have HR6 := Lib.hid hrow6
        have HB2 := Lib.hid hb
        clear hrow5 hvl5 hrow6 hb H HB
        go_wp2_with fail
        go_ret3
        exact .inr ⟨a5, n5, c5, a6, n6, c6, vs5, rfl, ⟨by have := HN.out; omega, HB2.out⟩, HR5.out, HVL5.out.keepT fun b cs f hb hb2 => ⟨hb2, hb.1⟩, HR6.out, hE⟩
  · have h4i : (4 : Int) < (n : Int) := by omega
    go_enter Tryz.func9, Tryz.ntmps9
    go_wp2_with fail
    go_ret3
    exact .inl ⟨_, _, rfl, Ext.refl _ _⟩

end Go.Proofs.YtocjfcgailkfjaaGreatDoor
end
