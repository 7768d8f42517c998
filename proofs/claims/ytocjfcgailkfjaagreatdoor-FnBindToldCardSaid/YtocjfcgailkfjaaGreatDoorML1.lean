/- ldapParts and LdapAnswer: the tree of a result. LdapAnswer: the answer's tree; errors.New, zzShown, packetResultCode. -/
import Derived.Test.YtocjfcgailkfjaaGreatDoorMG5
import Derived.Test.YtocjfcgailkfjaaGreatDoorMJ2
import Derived.Test.YtocjfcgailkfjaaGreatDoorMJ3

set_option linter.unusedVariables false
set_option linter.unusedSimpArgs false
set_option linter.unusedSectionVars false

section
namespace Go.Proofs.YtocjfcgailkfjaaGreatDoor
open Go.RowKit

attribute [local go_sem ↓] Go.wp_at_zero Go.wp_at_succ

/-- A result's parts and its tree. -/
def resK (bs m t : List UInt8) (l : List (List UInt8)) : List T := [.prim 0 10 bs, .prim 0 4 m, .prim 0 4 t] ++ (if l = [] then [] else [.cons 2 3 (l.map (T.prim 0 4))])
def resT (kind : Nat) (bs m t : List UInt8) (l : List (List UInt8)) : T := .cons 1 kind (resK bs m t l)

theorem row_three (w : World) (S : Nat → Prop) (g : Nat) (a b c d e a' b' c' d' e' a2 b2 c2 d2 e2 : Value) (hS : S g) (hg : w.heap[g]? = some (.cells #[a, b, c, d, e, a', b', c', d', e', a2, b2, c2, d2, e2] 43 (0, 0))) : BerRow w S (.slice (some ⟨g, 0, none⟩) 3 3) [.agg #[a, b, c, d, e], .agg #[a', b', c', d', e'], .agg #[a2, b2, c2, d2, e2]] :=
  .inr ⟨g, 3, _, rfl, hS, hg, by simp, by unfold maxLen; omega, rfl, fun j x hj => by
    match j, hj with
    | 0, hj =>
      obtain rfl := Option.some.inj hj
      exact ⟨a, b, c, d, e, rfl, rfl, rfl, rfl, rfl, rfl⟩
    | 1, hj =>
      obtain rfl := Option.some.inj hj
      exact ⟨a', b', c', d', e', rfl, rfl, rfl, rfl, rfl, rfl⟩
    | 2, hj =>
      obtain rfl := Option.some.inj hj
      exact ⟨a2, b2, c2, d2, e2, rfl, rfl, rfl, rfl, rfl, rfl⟩⟩

/-- What the parts come to. -/
def PartsE (w : World) (code : Nat) (m t : List UInt8) (l : List (List UInt8)) (e : Ending) (w' : World) : Prop :=
  ∃ sa sn sc vs bs, e = .returned (.slice sa sn sc) ∧ (1 ≤ bs.length ∧ bs.length ≤ 4 ∧ (code < 128 → bs = [UInt8.ofNat code])) ∧ BerRow w' (fun x => w.heap.size ≤ x) (.slice sa sn sc) vs ∧ BerVL w' (fun x => w.heap.size ≤ x) (resK bs m t l) vs ∧ Ext none_ w w'

set_option maxHeartbeats 1000000 in
set_option maxRecDepth 100000 in
theorem ldapParts_any (w : World) (code : Nat) (hcode : code < 2147483648) (m t : List UInt8) (a : Option Addr) (n c : Nat) (l : List (List UInt8)) (h : StrRow w a n l) (hn : n ≤ 1000) :
    Calls Tryz.prog 49 #[.agg #[.int .i64 code, .string (strOf m), .string (strOf t), .slice a n c]] w (PartsE w code m t l) := by
  have E0 := (Ext.refl none_ w).alloc (.cells #[.int .i64 code, .string (strOf m), .string (strOf t), .slice a n c] 53)
  have hbox : (w.alloc (.cells #[.int .i64 code, .string (strOf m), .string (strOf t), .slice a n c] 53)).heap[w.heap.size]? = _ := heap_new w _
  have HS := Lib.hid h
  clear h
  go_enter Tryz.func49, Tryz.ntmps49
  have cbox := Lib.cell_of_heap hbox
  go_upto_region 1 with fail
  go_cut [3] from 4 to 13 (fun v3 W => ∃ bs : List UInt8, (1 ≤ bs.length ∧ bs.length ≤ 4 ∧ (code < 128 → bs = [UInt8.ofNat code])) ∧ ∃ g, v3 = .slice (some ⟨g, 0, none⟩) 3 3 ∧ w.heap.size < g ∧ W.heap[g]? = some (.cells #[.int .u8 0, .bool false, .int .u64 10, .string (strOf bs), .slice none 0 0, .int .u8 0, .bool false, .int .u64 4, .string (strOf m), .slice none 0 0, .int .u8 0, .bool false, .int .u64 4, .string (strOf t), .slice none 0 0] 43 (0, 0)) ∧ W.heap[w.heap.size]? = some (.cells #[.int .i64 code, .string (strOf m), .string (strOf t), .slice a n c] 53 (0, 0)) ∧ Ext none_ w W)
  case first =>
    have hE := E0.drew
    go_region_with (first
      | (go_at_call 69; refine (berEnumerated_any _ code hcode).mono ?_; rintro e wA ⟨bs, rfl, hbs, EA⟩; have hbox := EA.get hbox (fun h => h); have cbox := Lib.cell_of_heap hbox; have hE := hE.trans EA)
      | (go_at_call 39; refine (berOctets_any _ _).mono ?_; rintro e wA ⟨rfl, EA⟩; have hbox := EA.get hbox (fun h => h); have cbox := Lib.cell_of_heap hbox; have hE := hE.trans EA))
    all_goals
      go_wp2_with fail
      go_meet
      case rel =>
        have hl := lt_of_block hbox
        exact ⟨bs, hbs, _, rfl, hl, heap_new _ _, heap_old hbox, hE.alloc _⟩
  case rest =>
    obtain ⟨bs, hbs, g, rfl, hg, hgh, hb, E1⟩ := hcut
    have HBS := Lib.hid hbs
    have HG := Lib.hid hgh
    have HS1 := Lib.hid (HS.out.ext E1 (fun _ _ h => h))
    clear hbs cbox hbox E0
    have cb := Lib.cell_of_heap hb
    clear hgh hb
    by_cases hc : n = 0
    · have Hc := Lib.hid hc
      subst hc
      go_wp2_with fail
      have hl : l = [] := List.eq_nil_of_length_eq_zero HS.out.1
      refine bodyPost_ret (v := .slice (some ⟨g, 0, none⟩) 3 3) (by simp [results, Tryz.results49]) rfl ⟨_, _, _, _, bs, rfl, HBS.out, row_three _ _ g _ _ _ _ _ _ _ _ _ _ _ _ _ _ _ (by omega) HG.out, ?_, E1⟩
      unfold resK
      rw [if_pos hl]
      simp only [List.append_nil, BerVL, and_true]
      exact ⟨by unfold BerV; rfl, by unfold BerV; rfl, by unfold BerV; rfl⟩
    · have hci : (0 : Int) < (n : Int) := by omega
      go_wp2_with fail
      refine (berTexts_any wc a n c l HS1.out hn).mono ?_
      rintro e wB ⟨ta, tn, tc, rfl, hrowB, EB⟩
      have E2 := (Ext.refl none_ wB).alloc (.cells #[.int .u8 2, .bool true, .int .u64 3, .string ⟨#[]⟩, .slice ta tn tc] 43)
      have hgB := E2.get (EB.get HG.out (fun h => h)) (fun h => h)
      have hR := row_three (wB.alloc (.cells #[.int .u8 2, .bool true, .int .u64 3, .string ⟨#[]⟩, .slice ta tn tc] 43)) (fun x => w.heap.size < x) g _ _ _ _ _ _ _ _ _ _ _ _ _ _ _ hg hgB
      obtain ⟨sa, sn, sc, W', hrun, hR5, E5⟩ := append_ber _ _ _ _ wB.heap.size _ _ _ _ _ hR (heap_new wB _) (by simp [Value.oneCell']) (by simp)
      have hgl := lt_of_block HG.out
      have s1 := E1.size
      have sB := EB.size
      have E05 : Ext none_ w W' := ((E1.trans EB).trans E2).trans' E5 (fun x hx h => by simp [Value.ownBlock] at h; omega)
      have HR5 := Lib.hid hR5
      have HRB := Lib.hid (Ext.row E2 hrowB)
      have HE5 := Lib.hid E5
      clear hR hR5 hrowB E5 hgB cb
      go_wp2_with (at_builtin; refine Lib.wpList_append_run _ rfl _ _ _ _ rfl _ _ rfl rfl _ _ hrun ?_)
      have hl : ¬ l = [] := fun e => hc (by have := HS.out.1; rw [e] at this; exact this.symm)
      refine bodyPost_ret (v := .slice sa sn sc) (by simp [results, Tryz.results49]) rfl ⟨_, _, _, _, bs, rfl, HBS.out, HR5.out.frame (fun x hx _ => ⟨rfl, ?_⟩), ?_, E05⟩
      · rcases hx with h | h
        · simp [Value.ownBlock] at h; omega
        · rw [World.size_alloc] at h; omega
      · unfold resK
        rw [if_neg hl]
        simp only [List.cons_append, List.nil_append, BerVL, and_true]
        refine ⟨by unfold BerV; rfl, by unfold BerV; rfl, by unfold BerV; rfl, ?_⟩
        unfold BerV
        refine ⟨_, _, rfl, HRB.out.frame (fun x hx hx2 => ⟨HE5.out.block x hx2 (fun e => ?_), by omega⟩), octV_ber _ _ l⟩
        simp [Value.ownBlock] at e
        omega

end Go.Proofs.YtocjfcgailkfjaaGreatDoor
end

section
namespace Go.Proofs.YtocjfcgailkfjaaGreatDoor
open Go.RowKit

/-- What LdapAnswer gives. -/
def AnsE (w : World) (kind code : Nat) (m t : List UInt8) (l : List (List UInt8)) (e : Ending) (w' : World) : Prop :=
  ∃ v bs, e = .returned v ∧ (1 ≤ bs.length ∧ bs.length ≤ 4 ∧ (code < 128 → bs = [UInt8.ofNat code])) ∧ BerV w' (fun x => w.heap.size ≤ x) (resT kind bs m t l) v ∧ Ext none_ w w'

set_option maxHeartbeats 1000000 in
set_option maxRecDepth 100000 in
theorem ldapAnswer_any (w : World) (kind code : Nat) (hcode : code < 2147483648) (m t : List UInt8) (a : Option Addr) (n c : Nat) (l : List (List UInt8)) (h : StrRow w a n l) (hn : n ≤ 1000) :
    Calls Tryz.prog 21 #[.int .u64 kind, .agg #[.int .i64 code, .string (strOf m), .string (strOf t), .slice a n c]] w (AnsE w kind code m t l) := by
  have h2 := two_new w (.cells #[.int .i64 code, .string (strOf m), .string (strOf t), .slice a n c] 53 (0, 0)) (.cells #[.int .u8 0, .bool false, .int .u64 0, .string ⟨#[]⟩, .slice none 0 0] 43 (0, 0))
  have HP := Lib.hid (ldapParts_any ((w.alloc (.cells #[.int .i64 code, .string (strOf m), .string (strOf t), .slice a n c] 53 (0, 0))).alloc (.cells #[.int .u8 0, .bool false, .int .u64 0, .string ⟨#[]⟩, .slice none 0 0] 43 (0, 0))) code hcode m t a n c l (h.ext h2.2.2 (fun _ _ h => h)) hn)
  have H2 := Lib.hid h2
  have cb := Lib.cell_of_heap h2.1
  clear h h2
  go_enter Tryz.func21, Tryz.ntmps21
  go_wp2_with fail
  refine HP.out.mono ?_
  rintro e w1 ⟨sa, sn, sc, vs, bs, rfl, hbs, hrow, hvl, E1⟩
  have HR := Lib.hid hrow
  have HV := Lib.hid hvl
  have HBS := Lib.hid hbs
  clear hrow hvl cb hbs
  go_wp2_with fail
  refine (berApplication_any w1 kind sa sn sc).mono ?_
  rintro e w2 ⟨rfl, E2⟩
  have hb := E2.get (E1.get H2.out.2.1 (fun h => h)) (fun h => h)
  have c2 := Lib.cell_of_heap hb
  have f2 := Lib.frozen_of_heap hb
  have HB := Lib.hid hb
  have E02 := (H2.out.2.2.trans E1).trans E2
  have s1 := H2.out.2.2.size
  have s2 : w.heap.size + 2 ≤ w1.heap.size := by have := E1.size; simpa using this
  clear hb HP
  go_wp2_with fail
  have K := heap_set (heap_set (heap_set (heap_set (heap_set HB.out (i := 0) (.int .u8 1)) (i := 1) (.bool true)) (i := 2) (.int .u64 kind)) (i := 3) (.string ⟨#[]⟩)) (i := 4) (.slice sa sn sc)
  have ck := Lib.cell_of_heap K
  have EF := (((((Ext.refl (fun b => b = w.heap.size + 1) w2).setAt (b := w.heap.size + 1) (i := 0) (.inr rfl) (.int .u8 1)).setAt (b := w.heap.size + 1) (i := 1) (.inr rfl) (.bool true)).setAt (b := w.heap.size + 1) (i := 2) (.inr rfl) (.int .u64 kind)).setAt (b := w.heap.size + 1) (i := 3) (.inr rfl) (.string ⟨#[]⟩)).setAt (b := w.heap.size + 1) (i := 4) (.inr rfl) (.slice sa sn sc)
  refine bodyPost_ret (v := .agg #[.int .u8 1, .bool true, .int .u64 kind, .string ⟨#[]⟩, .slice sa sn sc]) (by simp [results, Tryz.results21, go_sem, ck]) rfl ⟨_, bs, rfl, HBS.out, ?_, E02.trans' EF (fun x hx h => by omega)⟩
  have hk : ∀ b, (w.alloc (Obj.cells #[.int .i64 code, .string (strOf m), .string (strOf t), .slice a n c] 53 (0, 0))).heap.size + 1 ≤ b → b < w1.heap.size → (((((w2.setCell ⟨w.heap.size + 1, 0, none⟩ (.int .u8 1)).setCell ⟨w.heap.size + 1, 1, none⟩ (.bool true)).setCell ⟨w.heap.size + 1, 2, none⟩ (.int .u64 kind)).setCell ⟨w.heap.size + 1, 3, none⟩ (.string ⟨#[]⟩)).setCell ⟨w.heap.size + 1, 4, none⟩ (.slice sa sn sc)).heap[b]? = w1.heap[b]? ∧ w.heap.size ≤ b := fun b hb hb2 => by
    rw [World.size_alloc] at hb
    exact ⟨(EF.block b (by have := E2.size; omega) (by omega)).trans (E2.block b hb2 (fun h => h)), by omega⟩
  unfold resT BerV
  exact ⟨_, vs, rfl, HR.out.frame (fun b hb hb2 => hk b (by rw [World.size_alloc] at hb; exact hb) hb2), BerVL.frame (fun b hb hb2 => hk b (by rw [World.size_alloc] at hb; exact hb) hb2) _ _ HV.out⟩

set_option maxHeartbeats 400000 in
set_option maxRecDepth 100000 in
theorem errorsNew_any (w : World) (s : ByteArray) : Calls Tryz.prog 90 #[.string s] w fun e w' => e = .returned (.iface 310 (.pointer (some ⟨w.heap.size, 0, none⟩))) ∧ w' = w.alloc (.cells #[.string s] 312) := by
  go_enter Tryz.func90, Tryz.ntmps90
  go_wp2_with fail
  go_ret
  exact ⟨rfl, rfl⟩

set_option maxHeartbeats 400000 in
set_option maxRecDepth 100000 in
theorem zzShown_any (w : World) (s : ByteArray) : Calls Tryz.prog 145 #[.iface 9 (.string s)] w fun e w' => e = .returned (.string s) ∧ w = w' := by
  have ta := assert_string
  go_enter Tryz.func145, Tryz.ntmps145
  go_wp2_with fail
  go_ret
  exact ⟨rfl, rfl⟩

set_option maxHeartbeats 400000 in
set_option maxRecDepth 100000 in
theorem packetResultCode_any (w : World) (S : Nat → Prop) (p cc bt tag n : Nat) (bs : List UInt8) (ps : List Nat) (h : PkOwn w S p cc bt tag (.iface 2 (.int .i64 n)) bs ps) (hn : n ≤ 127) :
    Calls Tryz.prog 144 #[.pointer (some ⟨p, 0, none⟩)] w fun e w' => e = .returned (.tuple #[.int .u16 n, .nilIface]) ∧ w = w' := by
  have H := Lib.hid (packetInt64_any w S p cc bt tag n bs ps h)
  clear h
  have h0 : ¬ (n : Int) < 0 := by omega
  have h1 : ¬ (65535 : Int) < (n : Int) := by omega
  have hw : IntKind.u16.wrap (n : Int) = (n : Int) := by
    show (n : Int) % 65536 = _
    omega
  go_enter Tryz.func144, Tryz.ntmps144
  go_wp2_with fail
  refine H.out.mono ?_
  rintro e w1 ⟨rfl, rfl⟩
  go_wp2_with fail
  go_ret2
  exact ⟨rfl, rfl⟩

end Go.Proofs.YtocjfcgailkfjaaGreatDoor
end
