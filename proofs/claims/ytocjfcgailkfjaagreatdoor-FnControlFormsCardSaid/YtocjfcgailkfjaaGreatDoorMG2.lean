/- berForms at a node. berForms writes a form of every fine tree; BerForms. The builders of values: octets, booleans, sequences, sets, applications. append of one value of spec.Ber onto a row. -/
import Derived.Test.YtocjfcgailkfjaaGreatDoorMG1
import Derived.Deep.DeepCutAuto

set_option linter.unusedVariables false
set_option linter.unusedSimpArgs false
set_option linter.unusedSectionVars false

section
namespace Go.Proofs.YtocjfcgailkfjaaGreatDoor
open Go.RowKit

theorem T.wt_pos (t : T) : 12 ≤ t.wt := by cases t <;> simp [T.wt]
theorem T.len_wtL : ∀ (ts : List T), ts.length ≤ T.wtL ts
  | [] => by simp [T.wtL]
  | t :: ts => by
    have := T.len_wtL ts
    have := t.wt_pos
    simp [T.wtL]; omega

theorem BerV.shape {w : World} {S : Nat → Prop} {t : T} {v : Value} (h : BerV w S t v) : ∃ (cls : Nat) (b : Bool) (tag : Nat) (data : ByteArray) (sa : Option Addr) (sn sc : Nat), v = .agg #[.int .u8 cls, .bool b, .int .u64 tag, .string data, .slice sa sn sc] := by
  cases t with
  | prim cls tag data => unfold BerV at h; exact ⟨_, _, _, _, _, _, _, h⟩
  | cons cls tag kids =>
    unfold BerV at h
    obtain ⟨sl, vs, h1, h2, h3⟩ := h
    rcases h2 with ⟨rfl, _⟩ | ⟨g, cap, cur, rfl, _⟩
    · exact ⟨_, _, _, _, _, _, _, h1⟩
    · exact ⟨_, _, _, _, _, _, _, h1⟩

/-- How a node's bytes stand. -/
def NodeForm (cls tag : Nat) (built : Bool) (data body wire : List UInt8) : Prop :=
  (∃ lf, wire = UInt8.ofNat (cls * 64 + (if built then 32 else 0) + tag) :: (lf ++ (data ++ body)) ∧ LenForm ((data ++ body).length : Nat) lf) ∨ (built = true ∧ wire = UInt8.ofNat (cls * 64 + (if built then 32 else 0) + tag) :: ([128] ++ ((data ++ body) ++ [0, 0])))

/-- The state of the loop over a value's items. -/
def FormSt (w W : World) (A k b0 : Nat) (o : Obj) (kids : List T) (data : List UInt8) (j : Nat) (s : Value) : Prop :=
  ∃ (dn rm : List T) (body : List UInt8) (kk : Nat), kids = dn ++ rm ∧ dn.length = j ∧ s = .string (strOf (data ++ body)) ∧ WireL dn body ∧ body.length ≤ T.wtL dn ∧ kk ≤ k + 1 + T.wtL dn ∧
    W.heap[A]? = some (.cells #[.int .i64 (kk : Nat)] 3 (0, 0)) ∧ W.heap[b0]? = some o ∧ Ext (fun b => b = A) w W

set_option maxHeartbeats 1000000 in
set_option maxRecDepth 100000 in
theorem formsNode (w : World) (S : Nat → Prop) (A : Nat) (ca : Option Addr) (cn cc k : Nat) (ch : List UInt8) (cls tag : Nat) (built : Bool) (data : List UInt8) (sa : Option Addr) (sn sc : Nat) (kids : List T) (vs : List Value) (wk : Nat)
    (hcn : Hid (ch.length = cn)) (hcn2 : cn ≤ 1000) (hrow : BerRow w S (.slice sa sn sc) vs) (hkids : BerVL w S kids vs) (hA : w.heap[A]? = some (.cells #[.int .i64 k] 3 (0, 0))) (hSA : ¬ S A) (hch : ChAtt w A ca ch)
    (hwk : Hid (T.wtL kids = wk)) (hk : k + wk ≤ 999990) (hcl : cls < 4) (htg : tag < 31) (hdl : data.length ≤ 480) (hih : Hid (∀ t ∈ kids, FormsTo A ca cn cc ch t)) (hwk2 : data.length + wk ≤ 59000) :
    Calls Tryz.prog 57 #[.agg #[.int .u8 cls, .bool built, .int .u64 tag, .string (strOf data), .slice sa sn sc], .slice ca cn cc, .pointer (some ⟨A, 0, none⟩)] w fun e w' => ∃ wire, e = .returned (.string (strOf wire)) ∧ (∃ body, WireL kids body ∧ body.length ≤ wk ∧
      NodeForm cls tag built data body wire) ∧
      (∃ k', w'.heap[A]? = some (.cells #[.int .i64 (k' : Nat)] 3 (0, 0)) ∧ k' ≤ k + wk + 1) ∧ Ext (fun b => b = A) w w' := by
  have E0 := (Ext.refl (fun b => b = A) w).alloc (.cells #[.int .u8 cls, .bool built, .int .u64 tag, .string (strOf data), .slice sa sn sc] 43)
  have hAl := lt_of_block hA
  have hA0 : (w.alloc (.cells #[.int .u8 cls, .bool built, .int .u64 tag, .string (strOf data), .slice sa sn sc] 43)).heap[A]? = _ := heap_old hA
  have hb0 := heap_new w (.cells #[.int .u8 cls, .bool built, .int .u64 tag, .string (strOf data), .slice sa sn sc] 43)
  have c0 := Lib.cell_of_heap hA0
  have f0 := Lib.frozen_of_heap hA0
  go_enter Tryz.func57, Tryz.ntmps57
  go_upto_if 13 with fail
  go_cut [7] from 13 to 29 (fun v7 W => ∃ way k' : Nat, way < 5 ∧ v7 = .int .i64 way ∧ k' ≤ k + 1 ∧ W.heap[A]? = some (.cells #[.int .i64 k'] 3 (0, 0)) ∧ W.heap[w.heap.size]? = some (.cells #[.int .u8 cls, .bool built, .int .u64 tag, .string (strOf data), .slice sa sn sc] 43 (0, 0)) ∧ Ext (fun b => b = A) w W)
  case first =>
    by_cases hc0 : cn = 0
    · subst hc0
      go_wp2_with fail
      go_meet
      case rel => exact ⟨0, k, by omega, rfl, by omega, hA0, hb0, E0⟩
    · have hci : (0 : Int) < (cn : Int) := by omega
      have hne : ch ≠ [] := fun e => by rw [e] at hcn; exact hc0 hcn.out.symm
      obtain ⟨g, o, rfl, hB, hgA⟩ := hch.resolve_left hne
      have hm : k % cn < cn := Nat.mod_lt _ (by omega)
      obtain ⟨z, hz⟩ : ∃ z, ch[k % cn]? = some z := ⟨ch[k % cn]'(by rw [hcn.out]; exact hm), List.getElem?_eq_getElem _⟩
      have hcell := (hB.ext E0 (fun h => hgA h)).cell hz
      have hw64 : wrap64 ((z.toNat : Nat) : Int) = ((z.toNat : Nat) : Int) := by have := z.toNat_lt; unfold wrap64; omega
      have ht5 : ((z.toNat : Nat) : Int).tmod 5 = ((z.toNat % 5 : Nat) : Int) := by rw [Int.tmod_eq_emod_of_nonneg (by omega)]; omega
      go_wp2_with fail
      go_meet
      case rel =>
        refine ⟨z.toNat % 5, k + 1, by omega, by first | rfl | rw [ht5] | rw [hw64, ht5], by omega, heap_old (heap_set hA _), ?_, ((Ext.refl (fun b => b = A) w).setAt (b := A) (i := 0) (.inr rfl) _).alloc _⟩
        have := heap_new (w.setCell ⟨A, 0, none⟩ (.int .i64 (k + 1))) (.cells #[.int .u8 cls, .bool built, .int .u64 tag, .string (strOf data), .slice sa sn sc] 43)
        rwa [World.size_setCell] at this
  case rest =>
    obtain ⟨way, k1, hway, rfl, hk1, hA1, hb1, E1⟩ := hcut
    clear c0 f0 hA0 hb0 E0
    have cb := Lib.cell_of_heap hb1
    go_wp2_with fail
    clear cb
    have hvl := BerVL.length _ _ hkids
    have hsn : sn = vs.length := by
      rcases hrow with ⟨e, rfl⟩ | ⟨g, cap, cur, e, _⟩
      · cases e; rfl
      · cases e; rfl
    have HS := Lib.hid (show sn = kids.length by rw [hsn, hvl])
    have hsn3 : sn ≤ 100000 := by
      have h1 := HS.out
      have h2 := T.len_wtL kids
      have h3 := hwk.out
      omega
    have h0 : FormSt w wc A k w.heap.size (.cells #[.int .u8 cls, .bool built, .int .u64 tag, .string (strOf data), .slice sa sn sc] 43 (0, 0)) kids data 0 (.string (strOf data)) :=
      ⟨[], kids, [], k1, rfl, rfl, by rw [List.append_nil], .nil, by simp, by omega, hA1, hb1, E1⟩
    have HV := Lib.hid hsn
    have HL := Lib.hid hvl
    clear hsn hvl hA1 hb1 E1
    go_loopw [8, 35] (fun s i W => ∃ j : Nat, j ≤ sn ∧ i = .int .i64 j ∧ ∃ body : List UInt8, s = .string (strOf body) ∧ Hid (FormSt w W A k w.heap.size (.cells #[.int .u8 cls, .bool built, .int .u64 tag, .string (strOf data), .slice sa sn sc] 43 (0, 0)) kids data j (.string (strOf body)))) (fun _ i _ => sn - (intOf i).toNat)
    case atStart => exact ⟨0, by omega, rfl, data, rfl, h0⟩
    case round =>
      obtain ⟨j, hj, rfl, body0, rfl, H⟩ := hrel
      clear h0
      by_cases hlt : j < sn
      · have hji : (j : Int) < (sn : Int) := by omega
        obtain ⟨dn, rm, body, kk, hkk, hdn, hbs, hwl, hbl, hkkl, hA2, hb2, E2⟩ := H.out
        obtain ⟨t, ht⟩ : ∃ t, kids[j]? = some t := ⟨kids[j]'(by have := HS.out; omega), List.getElem?_eq_getElem _⟩
        obtain ⟨v, hv, hbv⟩ := BerVL.at kids vs j t hkids ht
        obtain ⟨g, cap, cur, e, hSg, hg, hlc, hcm, hcs, hcur⟩ := hrow.resolve_left (fun h => by rw [h.2] at hv; simp at hv)
        obtain ⟨a, b, c, d, e5, hve, q0, q1, q2, q3, q4⟩ := hcur j v hv
        obtain ⟨kcls, kb, ktag, kdata, ksa, ksn, ksc, hvs⟩ := hbv.shape
        rw [hve] at hvs
        simp only [Value.agg.injEq, Array.mk.injEq, List.cons.injEq, and_true] at hvs
        obtain ⟨rfl, rfl, rfl, rfl, rfl⟩ := hvs
        cases e
        have hgA : g ≠ A := fun e => hSA (e ▸ hSg)
        have hg2 := E2.get hg hgA
        have r0 := (Lib.cell_of_heap hg2 (j * 5)).trans q0
        have r1 := (Lib.cell_of_heap hg2 (j * 5 + 1)).trans q1
        have r2 := (Lib.cell_of_heap hg2 (j * 5 + 2)).trans q2
        have r3 := (Lib.cell_of_heap hg2 (j * 5 + 3)).trans q3
        have r4 := (Lib.cell_of_heap hg2 (j * 5 + 4)).trans q4
        have hkid := hih.out t (List.mem_of_getElem? ht)
        obtain ⟨rm', rfl⟩ : ∃ rm', rm = t :: rm' := by
          rw [hkk, List.getElem?_append_right (by omega), hdn, Nat.sub_self] at ht
          cases rm with
          | nil => simp at ht
          | cons x rm' =>
            obtain rfl := Option.some.inj ht
            exact ⟨rm', rfl⟩
        have hwtt : T.wtL dn + t.wt ≤ wk := by
          have h3 := hwk.out
          rw [hkk, T.wtL_append] at h3
          simp only [T.wtL] at h3
          omega
        have Hkk := Lib.hid hkk
        clear hkk
        have E3 := (Ext.refl none_ wr).alloc (.cells #[.int .u8 kcls, .bool kb, .int .u64 ktag, .string kdata, .slice ksa ksn ksc] 43)
        have E2w := E2.size
        have hcall := hkid (wr.alloc (.cells #[.int .u8 kcls, .bool kb, .int .u64 ktag, .string kdata, .slice ksa ksn ksc] 43)) S v kk (BerV.frame (fun x hx hx2 => ⟨(E3.block x (by omega) (fun h => h)).trans (E2.block x hx2 (fun h => hSA (h ▸ hx))), hx⟩) t v hbv) hSA (E3.get hA2 (fun h => h)) (hch.imp id (fun ⟨g', o', e', hB', hg'⟩ => ⟨g', o', e', (hB'.ext E2 hg').ext E3 (fun h => h), hg'⟩)) (by omega)
        rw [hve] at hcall
        have HC := Lib.hid hcall
        clear hcall hv hve hbv
        go_wp2_with fail
        refine HC.out.mono ?_
        rintro e w2 ⟨wire, k', rfl, hw1, hw2, hw3, hw4, E4⟩
        have happ := strOf_append
        have hsz := strOf_size
        have hbl2 : (data ++ (body ++ wire)).length ≤ 60000 := by simp; omega
        go_wp2_with fail
        have hb0 := lt_of_block hb2
        have HN : FormSt w w2 A k w.heap.size (.cells #[.int .u8 cls, .bool built, .int .u64 tag, .string (strOf data), .slice (some ⟨g, 0, none⟩) vs.length sc] 43 (0, 0)) kids data (j + 1) (.string (strOf (data ++ (body ++ wire)))) :=
          ⟨dn ++ [t], rm', body ++ wire, k', by rw [Hkk.out]; simp, by simp [hdn], rfl, WireL.snoc hw1 hwl, by rw [List.length_append, T.wtL_append]; simp only [T.wtL]; omega, by rw [T.wtL_append]; simp only [T.wtL]; omega, hw3, E4.get (E3.get hb2 (fun h => h)) (by omega), (E2.trans (Ext.zero E3)).trans E4⟩
        exact ⟨⟨j + 1, by omega, by go_num, _, rfl, HN⟩, by simp [intOf]; omega⟩
      · have hji : ¬ (j : Int) < (sn : Int) := by omega
        obtain ⟨dn, rm, body, kk, hkk, hdn, hbs, hwl, hbl, hkkl, hA2, hb2, E2⟩ := H.out
        obtain rfl : rm = [] := by
          have h1 := HS.out
          have h2 := congrArg List.length hkk
          rw [List.length_append] at h2
          exact List.eq_nil_of_length_eq_zero (by omega)
        rw [List.append_nil] at hkk
        subst hkk
        rw [hwk.out] at hbl hkkl
        simp only [Value.string.injEq] at hbs
        rw [hbs]
        have hb0 := lt_of_block hb2
        have hl2 : (data ++ body).length ≤ 60000 := by rw [List.length_append]; omega
        have cb := Lib.cell_of_heap hb2
        have HX := Lib.hid hwl
        clear hwl hbs H
        have happ := strOf_append
        have hsz := strOf_size
        obtain ⟨al, hal⟩ : ∃ al, al = data ++ body := ⟨_, rfl⟩
        rw [← hal] at hl2 ⊢
        have Hal := Lib.hid hal
        clear hal
        have hE2 := E2.size
        by_cases hw4 : way = 4
        · subst hw4
          cases built
          · go_wp2_with fail
            refine (berTag_any wr cls tag false (strOf data) sa sn sc hcl htg).mono ?_
            rintro e w2 ⟨rfl, E3⟩
            have hL := berLength_any w2 al.length 0 (by omega) (by omega)
            rw [show ((0 : Nat) : Int) = 0 from rfl] at hL
            have HLL := Lib.hid hL
            clear hL
            simp only [Bool.false_eq_true, if_false]
            obtain ⟨idb, hidb⟩ : ∃ idb, idb = UInt8.ofNat (cls * 64 + 0 + tag) := ⟨_, rfl⟩
            rw [← hidb]
            have Hid2 := Lib.hid hidb
            clear hidb
            go_wp2_with fail
            refine HLL.out.mono ?_
            rintro e w3 ⟨lf, rfl, hlf, E4⟩
            have hlfl := hlf.bounds.2.2.2
            have HLF := Lib.hid hlf
            clear hlf
            go_wp2_with fail
            refine bodyPost_ret (v := .string (strOf (idb :: (lf ++ al)))) (by simp [results, Tryz.results57]) rfl ⟨_, rfl, ⟨body, HX.out, hbl, ?_⟩, ⟨kk, E4.get (E3.get hA2 (fun h => h)) (fun h => h), by omega⟩, E2.trans (Ext.zero (E3.trans E4))⟩
            exact .inl ⟨lf, by rw [Hid2.out, Hal.out]; rfl, by rw [← Hal.out]; exact HLF.out⟩
          · go_wp2_with fail
            refine (berTag_any wr cls tag true (strOf data) sa sn sc hcl htg).mono ?_
            rintro e w2 ⟨rfl, E3⟩
            simp only [if_true]
            obtain ⟨idb, hidb⟩ : ∃ idb, idb = UInt8.ofNat (cls * 64 + 32 + tag) := ⟨_, rfl⟩
            rw [← hidb]
            have Hid2 := Lib.hid hidb
            clear hidb
            have hc80 : strOf [idb] ++ (⟨#[128]⟩ : ByteArray) = strOf [idb, 128] := by
              rw [show (⟨#[128]⟩ : ByteArray) = strOf [128] from rfl, strOf_append]; rfl
            have hc00 : ∀ l, strOf l ++ (⟨#[0, 0]⟩ : ByteArray) = strOf (l ++ [0, 0]) := fun l => by
              rw [show (⟨#[0, 0]⟩ : ByteArray) = strOf [0, 0] from rfl, strOf_append]
            go_wp2_with fail
            refine bodyPost_ret (v := .string (strOf (idb :: 128 :: (al ++ [0, 0])))) (by simp [results, Tryz.results57]) rfl ⟨_, rfl, ⟨body, HX.out, hbl, ?_⟩, ⟨kk, E3.get hA2 (fun h => h), by omega⟩, E2.trans (Ext.zero E3)⟩
            exact .inr ⟨rfl, by rw [Hid2.out, Hal.out]; rfl⟩
        · have hw4' : ((way : Int) == 4) = false := by simp; omega
          cases built
          · go_wp2_with fail
            refine (berTag_any wr cls tag false (strOf data) sa sn sc hcl htg).mono ?_
            rintro e w2 ⟨rfl, E3⟩
            have hL := berLength_any w2 al.length (way % 4) (by omega) (by omega)
            rw [show (((way % 4 : Nat)) : Int) = (way : Int) % 4 by omega] at hL
            have HLL := Lib.hid hL
            clear hL
            simp only [Bool.false_eq_true, if_false]
            obtain ⟨idb, hidb⟩ : ∃ idb, idb = UInt8.ofNat (cls * 64 + 0 + tag) := ⟨_, rfl⟩
            rw [← hidb]
            have Hid2 := Lib.hid hidb
            clear hidb
            go_wp2_with fail
            refine HLL.out.mono ?_
            rintro e w3 ⟨lf, rfl, hlf, E4⟩
            have hlfl := hlf.bounds.2.2.2
            have HLF := Lib.hid hlf
            clear hlf
            go_wp2_with fail
            refine bodyPost_ret (v := .string (strOf (idb :: (lf ++ al)))) (by simp [results, Tryz.results57]) rfl ⟨_, rfl, ⟨body, HX.out, hbl, ?_⟩, ⟨kk, E4.get (E3.get hA2 (fun h => h)) (fun h => h), by omega⟩, E2.trans (Ext.zero (E3.trans E4))⟩
            exact .inl ⟨lf, by rw [Hid2.out, Hal.out]; rfl, by rw [← Hal.out]; exact HLF.out⟩
          · go_wp2_with fail
            refine (berTag_any wr cls tag true (strOf data) sa sn sc hcl htg).mono ?_
            rintro e w2 ⟨rfl, E3⟩
            have hL := berLength_any w2 al.length (way % 4) (by omega) (by omega)
            rw [show (((way % 4 : Nat)) : Int) = (way : Int) % 4 by omega] at hL
            have HLL := Lib.hid hL
            clear hL
            simp only [if_true]
            obtain ⟨idb, hidb⟩ : ∃ idb, idb = UInt8.ofNat (cls * 64 + 32 + tag) := ⟨_, rfl⟩
            rw [← hidb]
            have Hid2 := Lib.hid hidb
            clear hidb
            go_wp2_with fail
            refine HLL.out.mono ?_
            rintro e w3 ⟨lf, rfl, hlf, E4⟩
            have hlfl := hlf.bounds.2.2.2
            have HLF := Lib.hid hlf
            clear hlf
            go_wp2_with fail
            refine bodyPost_ret (v := .string (strOf (idb :: (lf ++ al)))) (by simp [results, Tryz.results57]) rfl ⟨_, rfl, ⟨body, HX.out, hbl, ?_⟩, ⟨kk, E4.get (E3.get hA2 (fun h => h)) (fun h => h), by omega⟩, E2.trans (Ext.zero (E3.trans E4))⟩
            exact .inl ⟨lf, by rw [Hid2.out, Hal.out]; rfl, by rw [← Hal.out]; exact HLF.out⟩

end Go.Proofs.YtocjfcgailkfjaaGreatDoor
end

section
namespace Go.Proofs.YtocjfcgailkfjaaGreatDoor
open Go.RowKit

theorem T.wtL_mem : ∀ {ts : List T} (t : T), t ∈ ts → t.wt ≤ T.wtL ts
  | a :: ts, x, hx => by
    simp only [T.wtL]
    rcases List.mem_cons.1 hx with rfl | hx
    · omega
    · have := T.wtL_mem x hx; omega

theorem forms_any (A : Nat) (ca : Option Addr) (cn cc : Nat) (ch : List UInt8) (hcn : Hid (ch.length = cn)) (hcn2 : cn ≤ 1000) : ∀ (n : Nat) (t : T), t.deep ≤ n → t.fine → t.wt ≤ 50000 → FormsTo A ca cn cc ch t := by
  have prim : ∀ cls tag data, (T.prim cls tag data).fine → FormsTo A ca cn cc ch (.prim cls tag data) := by
    intro cls tag data hf w S v k hv hSA hA hch hk
    unfold BerV at hv
    subst hv
    obtain ⟨f1, f2, f3, f4⟩ := hf
    simp only [T.wt] at hk
    refine (formsNode w S A ca cn cc k ch cls tag false data none 0 0 [] [] 0 hcn hcn2 (.inl ⟨rfl, rfl⟩) (by unfold BerVL; trivial) hA hSA hch (Lib.hid rfl) (by omega) (by omega) f2 f3 (Lib.hid (fun t ht => by simp at ht)) (by omega)).mono ?_
    rintro e w' ⟨wire, rfl, ⟨body, hb, hbl, hnf⟩, ⟨k', hA', hk'⟩, E⟩
    cases hb
    rcases hnf with ⟨lf, rfl, hlf⟩ | ⟨h, _⟩
    · rw [List.append_nil] at hlf ⊢
      have hll := hlf.bounds.2.2.2
      refine ⟨_, k', rfl, .prim cls tag data lf _ (by simp; omega) hlf, by simp [T.wt]; omega, hA', by simp only [T.wt]; omega, E⟩
    · cases h
  intro n
  induction n with
  | zero =>
    intro t hd hf hw
    cases t with
    | cons cls tag kids => simp [T.deep] at hd
    | prim cls tag data => exact prim cls tag data hf
  | succ n ih =>
    intro t hd hf hw
    cases t with
    | prim cls tag data => exact prim cls tag data hf
    | cons cls tag kids =>
      unfold T.fine at hf
      obtain ⟨f1, f2, f3, f4, f5, f6⟩ := hf
      simp only [T.deep] at hd
      simp only [T.wt] at hw
      have hih : ∀ t ∈ kids, FormsTo A ca cn cc ch t := fun t ht => ih t (by have := T.deepL_mem t ht; omega) (T.fineL_mem f6 t ht) (by have := T.wtL_mem t ht; omega)
      intro w S v k hv hSA hA hch hk
      simp only [T.wt] at hk
      unfold BerV at hv
      obtain ⟨sl, vs, rfl, hrow, hkids⟩ := hv
      obtain ⟨sa, sn, sc, rfl⟩ : ∃ sa sn sc, sl = .slice sa sn sc := by
        rcases hrow with ⟨rfl, _⟩ | ⟨g, cap, cur, rfl, _⟩
        · exact ⟨_, _, _, rfl⟩
        · exact ⟨_, _, _, rfl⟩
      refine (formsNode w S A ca cn cc k ch cls tag true [] sa sn sc kids vs (T.wtL kids) hcn hcn2 hrow hkids hA hSA hch rfl (by omega) (by omega) f2 (by simp) (Lib.hid hih) (by simp; omega)).mono ?_
      rintro e w' ⟨wire, rfl, ⟨body, hb, hbl, hnf⟩, ⟨k', hA', hk'⟩, E⟩
      have hx : (UInt8.ofNat (cls * 64 + 32 + tag)).toNat = cls * 64 + 32 + tag := UInt8.toNat_ofNat_of_lt' (show _ < 256 by omega)
      rcases hnf with ⟨lf, rfl, hlf⟩ | ⟨_, rfl⟩
      · rw [List.nil_append] at hlf ⊢
        have hll := hlf.bounds.2.2.2
        exact ⟨_, k', rfl, .definite cls tag kids body lf _ hx hb (by omega) hlf, by simp [T.wt]; omega, hA', by simp only [T.wt]; omega, E⟩
      · rw [List.nil_append]
        exact ⟨_, k', rfl, .indefinite cls tag kids body _ hx hb (by omega), by simp [T.wt]; omega, hA', by simp only [T.wt]; omega, E⟩

set_option maxHeartbeats 400000 in
set_option maxRecDepth 100000 in
theorem berForms_top (w : World) (S : Nat → Prop) (v : Value) (ca : Option Addr) (cn cc : Nat) (ch : List UInt8) (t : T) (hcn : Hid (ch.length = cn)) (hcn2 : cn ≤ 1000) (hv : BerV w S t v) (hch : ch = [] ∨ ∃ g o, ca = some ⟨g, o, none⟩ ∧ BytesAt w g o ch) (hd : t.deep ≤ 800) (hf : t.fine) (hw : t.wt ≤ 50000) :
    Calls Tryz.prog 28 #[v, .slice ca cn cc] w fun e w' => ∃ wire, e = .returned (.string (strOf wire)) ∧ Wire t wire ∧ wire.length ≤ t.wt ∧ Ext none_ w w' := by
  obtain ⟨cls, b, tag, data, sa, sn, sc, rfl⟩ := hv.shape
  have hA := two_new w (.cells #[.int .u8 cls, .bool b, .int .u64 tag, .string data, .slice sa sn sc] 43 (0, 0)) (.cells #[.int .i64 0] 3 (0, 0))
  have hcall := forms_any (w.heap.size + 1) ca cn cc ch hcn hcn2 800 t hd hf hw ((w.alloc (.cells #[.int .u8 cls, .bool b, .int .u64 tag, .string data, .slice sa sn sc] 43)).alloc (.cells #[.int .i64 0] 3)) (fun x => S x ∧ x < w.heap.size) _ 0 (BerV.frame (fun x hx hx2 => ⟨hA.2.2.block x hx2 (fun h => h), hx, hx2⟩) t _ hv) (fun h => by omega) hA.2.1 (hch.imp id (fun ⟨g, o, e, hB⟩ => ⟨g, o, e, hB.ext hA.2.2 (fun h => h), by have := hB.lt; omega⟩)) (by omega)
  have HC := Lib.hid hcall
  have E0 := hA.2.2
  clear hcall hA
  go_enter Tryz.func28, Tryz.ntmps28
  go_wp2_with fail
  refine HC.out.mono ?_
  rintro e w2 ⟨wire, k', rfl, hw1, hw2, hw3, hw4, E4⟩
  have HW := Lib.hid hw1
  clear hw1
  go_wp2_with fail
  go_ret
  exact ⟨_, rfl, HW.out, hw2, E0.trans' E4 fun x hx h => by omega⟩

end Go.Proofs.YtocjfcgailkfjaaGreatDoor
end

section
namespace Go.Proofs.YtocjfcgailkfjaaGreatDoor
open Go.RowKit

set_option maxHeartbeats 400000 in
theorem berOctets_any (w : World) (s : ByteArray) : Calls Tryz.prog 39 #[.string s] w fun e w' => e = .returned (.agg #[.int .u8 0, .bool false, .int .u64 4, .string s, .slice none 0 0]) ∧ Ext none_ w w' := by
  have ck := Lib.cell_of_heap (heap_new w (.cells #[.int .u8 0, .bool false, .int .u64 4, .string s, .slice none 0 0] 43 (0, 0)))
  go_enter Tryz.func39, Tryz.ntmps39
  go_wp2_with fail
  exact bodyPost_ret (v := .agg #[.int .u8 0, .bool false, .int .u64 4, .string s, .slice none 0 0]) (by simp [results, Tryz.results39, go_sem, ck]) rfl ⟨rfl, (Ext.refl none_ w).alloc _⟩

set_option maxHeartbeats 400000 in
theorem berTrue_any (w : World)  : Calls Tryz.prog 59 #[.bool true] w fun e w' => e = .returned (.agg #[.int .u8 0, .bool false, .int .u64 1, .string ⟨#[255]⟩, .slice none 0 0]) ∧ Ext none_ w w' := by
  have ck := Lib.cell_of_heap (heap_new w (.cells #[.int .u8 0, .bool false, .int .u64 1, .string ⟨#[255]⟩, .slice none 0 0] 43 (0, 0)))
  go_enter Tryz.func59, Tryz.ntmps59
  go_wp2_with fail
  exact bodyPost_ret (v := .agg #[.int .u8 0, .bool false, .int .u64 1, .string ⟨#[255]⟩, .slice none 0 0]) (by simp [results, Tryz.results59, go_sem, ck]) rfl ⟨rfl, (Ext.refl none_ w).alloc _⟩

set_option maxHeartbeats 400000 in
theorem berFalse_any (w : World)  : Calls Tryz.prog 59 #[.bool false] w fun e w' => e = .returned (.agg #[.int .u8 0, .bool false, .int .u64 1, .string ⟨#[0]⟩, .slice none 0 0]) ∧ Ext none_ w w' := by
  have ck := Lib.cell_of_heap (heap_new w (.cells #[.int .u8 0, .bool false, .int .u64 1, .string ⟨#[0]⟩, .slice none 0 0] 43 (0, 0)))
  go_enter Tryz.func59, Tryz.ntmps59
  go_wp2_with fail
  exact bodyPost_ret (v := .agg #[.int .u8 0, .bool false, .int .u64 1, .string ⟨#[0]⟩, .slice none 0 0]) (by simp [results, Tryz.results59, go_sem, ck]) rfl ⟨rfl, (Ext.refl none_ w).alloc _⟩

set_option maxHeartbeats 400000 in
theorem berSequence_any (w : World) (sa : Option Addr) (sn sc : Nat) : Calls Tryz.prog 38 #[.slice sa sn sc] w fun e w' => e = .returned (.agg #[.int .u8 0, .bool true, .int .u64 16, .string ⟨#[]⟩, .slice sa sn sc]) ∧ Ext none_ w w' := by
  have ck := Lib.cell_of_heap (heap_new w (.cells #[.int .u8 0, .bool true, .int .u64 16, .string ⟨#[]⟩, .slice sa sn sc] 43 (0, 0)))
  go_enter Tryz.func38, Tryz.ntmps38
  go_wp2_with fail
  exact bodyPost_ret (v := .agg #[.int .u8 0, .bool true, .int .u64 16, .string ⟨#[]⟩, .slice sa sn sc]) (by simp [results, Tryz.results38, go_sem, ck]) rfl ⟨rfl, (Ext.refl none_ w).alloc _⟩

set_option maxHeartbeats 400000 in
theorem berSet_any (w : World) (sa : Option Addr) (sn sc : Nat) : Calls Tryz.prog 40 #[.slice sa sn sc] w fun e w' => e = .returned (.agg #[.int .u8 0, .bool true, .int .u64 17, .string ⟨#[]⟩, .slice sa sn sc]) ∧ Ext none_ w w' := by
  have ck := Lib.cell_of_heap (heap_new w (.cells #[.int .u8 0, .bool true, .int .u64 17, .string ⟨#[]⟩, .slice sa sn sc] 43 (0, 0)))
  go_enter Tryz.func40, Tryz.ntmps40
  go_wp2_with fail
  exact bodyPost_ret (v := .agg #[.int .u8 0, .bool true, .int .u64 17, .string ⟨#[]⟩, .slice sa sn sc]) (by simp [results, Tryz.results40, go_sem, ck]) rfl ⟨rfl, (Ext.refl none_ w).alloc _⟩

set_option maxHeartbeats 400000 in
theorem berApplication_any (w : World) (tag : Nat) (sa : Option Addr) (sn sc : Nat) : Calls Tryz.prog 42 #[.int .u64 tag, .slice sa sn sc] w fun e w' => e = .returned (.agg #[.int .u8 1, .bool true, .int .u64 tag, .string ⟨#[]⟩, .slice sa sn sc]) ∧ Ext none_ w w' := by
  have ck := Lib.cell_of_heap (heap_new w (.cells #[.int .u8 1, .bool true, .int .u64 tag, .string ⟨#[]⟩, .slice sa sn sc] 43 (0, 0)))
  go_enter Tryz.func42, Tryz.ntmps42
  go_wp2_with fail
  exact bodyPost_ret (v := .agg #[.int .u8 1, .bool true, .int .u64 tag, .string ⟨#[]⟩, .slice sa sn sc]) (by simp [results, Tryz.results42, go_sem, ck]) rfl ⟨rfl, (Ext.refl none_ w).alloc _⟩

/-- A fresh row of values. -/
theorem BerRow.new {w : World} {S : Nat → Prop} {g : Nat} {vs : List Value} {cur : Array Value} (hg : w.heap[g]? = some (.cells cur 43 (0, 0))) (hS : S g) (hl : vs.length ≤ maxLen) (hc : cur.size = vs.length * 5)
    (h : ∀ (j : Nat) x, vs[j]? = some x → ∃ a b c d e, x = .agg #[a, b, c, d, e] ∧ cur[j * 5]? = some a ∧ cur[j * 5 + 1]? = some b ∧ cur[j * 5 + 2]? = some c ∧ cur[j * 5 + 3]? = some d ∧ cur[j * 5 + 4]? = some e) : BerRow w S (.slice (some ⟨g, 0, none⟩) vs.length vs.length) vs :=
  .inr ⟨g, vs.length, cur, rfl, hS, hg, Nat.le_refl _, hl, hc, h⟩

theorem info43 : (Tryz.prog.info? 43).map (fun i => (i.zero, i.size, i.bytes)) = some (some (.agg #[.int .u8 0, .bool false, .int .u64 0, .string ⟨#[]⟩, .slice none 0 0]), 5, 56) := by kernel_rfl

end Go.Proofs.YtocjfcgailkfjaaGreatDoor
end

section
namespace Go.Proofs.YtocjfcgailkfjaaGreatDoor
open Go.RowKit

theorem five_get {α : Type} (a b c d e : α) (r : List α) : (a :: b :: c :: d :: e :: r)[0]? = some a ∧ (a :: b :: c :: d :: e :: r)[1]? = some b ∧ (a :: b :: c :: d :: e :: r)[2]? = some c ∧ (a :: b :: c :: d :: e :: r)[3]? = some d ∧ (a :: b :: c :: d :: e :: r)[4]? = some e := ⟨rfl, rfl, rfl, rfl, rfl⟩

/-- A cell of an array that begins with n old ones, then has new ones. -/
theorem cells_old {cur new : List Value} {n j : Nat} (hn : n ≤ cur.length) (hj : j < n) : (cur.take n ++ new)[j]? = cur[j]? := by
  rw [List.getElem?_append_left (by rw [List.length_take]; omega), List.getElem?_take, if_pos hj]
theorem cells_new {cur new : List Value} {n j : Nat} (hn : n ≤ cur.length) : (cur.take n ++ new)[n + j]? = new[j]? := by
  rw [List.getElem?_append_right (by rw [List.length_take]; omega), List.length_take, Nat.min_eq_left hn, Nat.add_sub_cancel_left]

theorem row_snoc {vs : List Value} {cur new : List Value} {a b c d e : Value} (hn : vs.length * 5 ≤ cur.length)
    (hold : ∀ (j : Nat) x, vs[j]? = some x → ∃ a b c d e, x = .agg #[a, b, c, d, e] ∧ cur[j * 5]? = some a ∧ cur[j * 5 + 1]? = some b ∧ cur[j * 5 + 2]? = some c ∧ cur[j * 5 + 3]? = some d ∧ cur[j * 5 + 4]? = some e) :
    ∀ (j : Nat) x, (vs ++ [.agg #[a, b, c, d, e]])[j]? = some x → ∃ a' b' c' d' e', x = .agg #[a', b', c', d', e'] ∧ (cur.take (vs.length * 5) ++ (a :: b :: c :: d :: e :: new))[j * 5]? = some a' ∧ (cur.take (vs.length * 5) ++ (a :: b :: c :: d :: e :: new))[j * 5 + 1]? = some b' ∧ (cur.take (vs.length * 5) ++ (a :: b :: c :: d :: e :: new))[j * 5 + 2]? = some c' ∧ (cur.take (vs.length * 5) ++ (a :: b :: c :: d :: e :: new))[j * 5 + 3]? = some d' ∧ (cur.take (vs.length * 5) ++ (a :: b :: c :: d :: e :: new))[j * 5 + 4]? = some e' := by
  intro j x hj
  by_cases hjl : j < vs.length
  · rw [List.getElem?_append_left hjl] at hj
    obtain ⟨a', b', c', d', e', hx, h0, h1, h2, h3, h4⟩ := hold j x hj
    exact ⟨a', b', c', d', e', hx, by rw [cells_old hn (by omega)]; exact h0, by rw [cells_old hn (by omega)]; exact h1, by rw [cells_old hn (by omega)]; exact h2, by rw [cells_old hn (by omega)]; exact h3, by rw [cells_old hn (by omega)]; exact h4⟩
  · rw [List.getElem?_append_right (by omega)] at hj
    have hj0 : j = vs.length := by
      have := (List.getElem?_eq_some_iff.1 hj).1
      simp at this; omega
    subst hj0
    simp at hj
    subst hj
    refine ⟨a, b, c, d, e, rfl, ?_, cells_new hn, cells_new hn, cells_new hn, cells_new hn⟩
    have := cells_new (new := a :: b :: c :: d :: e :: new) (j := 0) hn
    rw [Nat.add_zero] at this
    exact this

theorem append_ber (W : World) (S : Nat → Prop) (sl : Value) (vs : List Value) (sg : Nat) (a b c d e : Value) (h : BerRow W S sl vs) (hs : W.heap[sg]? = some (.cells #[a, b, c, d, e] 43 (0, 0))) (h1 : ∀ u ∈ [a, b, c, d, e], u.oneCell' = true) (hl : vs.length ≤ 100000) :
    ∃ sa sn sc W', (Builtin.append_ #[29, 29] 29 #[sl, .slice (some ⟨sg, 0, none⟩) 1 1]).run Tryz.prog W = .ok (.slice sa sn sc) W' ∧ BerRow W' (fun x => sl.ownBlock = some x ∨ W.heap.size ≤ x) (.slice sa sn sc) (vs ++ [.agg #[a, b, c, d, e]]) ∧ Ext (fun x => sl.ownBlock = some x) W W' := by
  obtain ⟨i, hi, hz, hsz, hby⟩ := info_parts info43
  have hnews : ∀ j u, ([a, b, c, d, e] : List Value)[j]? = some u → W.cell? ((⟨sg, 0, none⟩ : Addr).add j) = some u := by
    intro j u hj
    rw [Lib.addr_add, Lib.cell_of_heap hs, Nat.zero_add]
    simpa using hj
  rcases h with ⟨rfl, rfl⟩ | ⟨g, cap, cur, rfl, hSg, hg, hlc, hcm, hcs, hcur⟩
  · have hr := run_append_nil (P := Tryz.prog) W 29 29 43 i _ Tryz.underlying29 hi hz ⟨sg, 0, none⟩ 1 1 [a, b, c, d, e] (by rw [hsz]; rfl) hnews (by omega) (by omega) (by rw [hby]; omega)
    have hge := grownCap_ge W 1 0 43
    refine ⟨_, _, _, _, hr, .inr ⟨W.heap.size, _, _, rfl, .inr (Nat.le_refl _), heap_new W.drew _, hge, grownCap_le_maxLen W _ _ _ (by unfold maxLen; omega), ?_, ?_⟩, ((Ext.refl _ W).drew).alloc _⟩
    · rw [Array.size_append, size_zeroCells]
      show 5 + _ * 5 = _
      omega
    · intro j x hj
      have := row_snoc (vs := []) (cur := []) (new := (Builtin.zeroCells (Value.cells (.agg #[.int .u8 0, .bool false, .int .u64 0, .string ⟨#[]⟩, .slice none 0 0])) (grownCap W 1 0 43 - 1)).toList) (a := a) (b := b) (c := c) (d := d) (e := e) (by simp) (fun j x hj => by simp at hj) j x hj
      simpa only [← Array.getElem?_toList, Array.toList_append, List.length_nil, Nat.zero_mul, List.take_zero, List.nil_append, List.cons_append] using this
  · have hcl : cur.toList.length = cap * 5 := by rw [Array.length_toList (xs := cur)]; exact hcs
    by_cases hroom : vs.length + 1 ≤ cap
    · have hr := run_append_room (P := Tryz.prog) W 29 29 43 i Tryz.underlying29 hi g vs.length cap cur hg ⟨sg, 0, none⟩ 1 1 [a, b, c, d, e] (by rw [hsz]; rfl) hnews h1 hroom (by rw [hsz]; simp; omega)
      refine ⟨_, _, _, _, hr, .inr ⟨g, cap, _, by simp, .inl rfl, setRow_heap _ _ _ _ _ _ hg, by simpa using hroom, hcm, ?_, ?_⟩, (Ext.refl (fun x => some g = some x) W).setRow (g := g) (fun _ => rfl) _⟩
      · rw [hsz]; simp; omega
      · intro j x hj
        have := row_snoc (new := cur.toList.drop (vs.length * 5 + 5)) (a := a) (b := b) (c := c) (d := d) (e := e) (by rw [hcl]; omega) (fun j x hj => by simpa using hcur j x hj) j x hj
        simpa [hsz] using this
    · have hcap : cap = vs.length := by omega
      have holds : ∀ j v, (cur.toList.take (vs.length * 5))[j]? = some v → W.cell? ((⟨g, 0, none⟩ : Addr).add j) = some v := by
        intro j v hj
        rw [Lib.addr_add, Lib.cell_of_heap hg, Nat.zero_add]
        rw [List.getElem?_take] at hj
        split at hj
        · rw [← Array.getElem?_toList]; exact hj
        · cases hj
      have hr := run_append_grow (P := Tryz.prog) W 29 29 43 i _ Tryz.underlying29 hi hz ⟨g, 0, none⟩ vs.length cap (cur.toList.take (vs.length * 5)) (by rw [hsz, List.length_take, hcl]; omega) holds ⟨sg, 0, none⟩ 1 1 [a, b, c, d, e] (by rw [hsz]; rfl) hnews (by omega) (by omega) (by rw [hby]; exact growslice_fits (by omega) (by omega))
      have hge := grownCap_ge W (vs.length + 1) cap 43
      refine ⟨_, _, _, _, hr, .inr ⟨W.heap.size, _, _, by rw [List.length_append]; rfl, .inr (Nat.le_refl _), heap_new W.drew _, by rw [List.length_append]; exact hge, grownCap_le_maxLen W _ _ _ (by unfold maxLen; omega), ?_, ?_⟩, ((Ext.refl _ W).drew).alloc _⟩
      · rw [Array.size_append, Array.size_append, size_zeroCells, List.size_toArray, List.size_toArray, List.length_take, hcl]
        show min _ _ + 5 + _ * 5 = _
        omega
      · intro j x hj
        have := row_snoc (new := (Builtin.zeroCells (Value.cells (.agg #[.int .u8 0, .bool false, .int .u64 0, .string ⟨#[]⟩, .slice none 0 0])) (grownCap W (vs.length + 1) cap 43 - (vs.length + 1))).toList) (a := a) (b := b) (c := c) (d := d) (e := e) (by rw [hcl]; omega) (fun j x hj => by simpa using hcur j x hj) j x hj
        simpa only [← Array.getElem?_toList, Array.toList_append, List.append_assoc, List.cons_append, List.nil_append] using this

end Go.Proofs.YtocjfcgailkfjaaGreatDoor
end
