/- spec.BerRead of a primitive value with more behind it. spec.BerRead of a written control. -/
import Derived.Test.YtocjfcgailkfjaaGreatDoorMO2
import Derived.Test.YtocjfcgailkfjaaGreatDoorMG2

set_option linter.unusedVariables false
set_option linter.unusedSimpArgs false
set_option linter.unusedSectionVars false

section
namespace Go.Proofs.YtocjfcgailkfjaaGreatDoor
open Go.RowKit

theorem idx_at (l : List UInt8) (i : Nat) (x : UInt8) (h : l[i]? = some x) (w : World) : (Instr.index 9 (.string (strOf l)) (.int .i64 (i : Nat))).run Tryz.prog w = .ok (.int .u8 (x.toNat : Nat)) w := by
  have hl := (List.getElem?_eq_some_iff.1 h).1
  have hsz := strOf_size l
  rw [run_index_string _ _ _ _ _ Tryz.underlying9, dif_pos ⟨by omega, by omega⟩]
  obtain ⟨_, rfl⟩ := List.getElem?_eq_some_iff.1 h
  rfl
theorem cut_at (a b c : List UInt8) (i j : Nat) (hi : a.length = i) (hj : i + b.length = j) (w : World) : (Instr.slice 9 (.string (strOf (a ++ (b ++ c)))) (some (.int .i64 (i : Nat))) (some (.int .i64 (j : Nat))) none).run Tryz.prog w = .ok (.string (strOf b)) w := by
  have hsz := strOf_size (a ++ (b ++ c))
  simp only [List.length_append] at hsz
  rw [run_slice_string (P := Tryz.prog) w 9 _ .i64 .i64 _ _ Tryz.underlying9 (by omega) (by omega) (by omega)]
  unfold strOf
  rw [ByteArray.extract_mk]
  subst hi hj
  have e : (((a.length + b.length : Nat) : Int)).toNat = a.length + b.length := by omega
  rw [e]
  simp
theorem cut_from (a c : List UInt8) (i : Nat) (hi : a.length = i) (w : World) : (Instr.slice 9 (.string (strOf (a ++ c))) (some (.int .i64 (i : Nat))) none none).run Tryz.prog w = .ok (.string (strOf c)) w := by
  have hsz := strOf_size (a ++ c)
  simp only [List.length_append] at hsz
  rw [run_slice_string_from_if (P := Tryz.prog) w 9 _ .i64 _ Tryz.underlying9, if_pos ⟨by omega, by omega⟩]
  unfold strOf
  rw [ByteArray.extract_mk]
  subst hi
  simp [strOf_size, ByteArray.size]

set_option maxHeartbeats 1000000 in
set_option maxRecDepth 100000 in
theorem berRead4 (w : World) (s : ByteArray) (data rest : List UInt8) (n m : Nat) (hs : Hid (s = strOf (UInt8.ofNat 4 :: UInt8.ofNat n :: (data ++ rest)))) (hn : Hid (data.length = n)) (hlt : n < 128) (hm : s.size = m) (hm2 : Hid (m = n + 2 + rest.length)) (hml : m ≤ 1000000) (deep : Int) (hd : 0 ≤ deep) :
    Calls Tryz.prog 54 #[.string s, .int .i64 deep] w fun e w' => e = .returned (.tuple #[.agg #[.int .u8 0, .bool false, .int .u64 4, .string (strOf data), .slice none 0 0], .int .i64 (2 + (n : Int)), .int .i64 0]) ∧ Ext none_ w w' := by
  have hd' : ¬ deep < 0 := by omega
  have hi0 : ∀ w, (Instr.index 9 (.string s) (.int .i64 0)).run Tryz.prog w = .ok (.int .u8 4) w := fun w => by
    have := idx_at (UInt8.ofNat 4 :: UInt8.ofNat n :: (data ++ rest)) 0 _ rfl w
    rw [hs.out]; exact this
  have hi1 : ∀ w, (Instr.index 9 (.string s) (.int .i64 1)).run Tryz.prog w = .ok (.int .u8 n) w := fun w => by
    have := idx_at (UInt8.ofNat 4 :: UInt8.ofNat n :: (data ++ rest)) 1 _ rfl w
    rw [ofNat_toNat' n (by omega)] at this
    rw [hs.out]; exact this
  have hcut : ∀ w, (Instr.slice 9 (.string s) (some (.int .i64 2)) (some (.int .i64 (2 + (n : Int)))) none).run Tryz.prog w = .ok (.string (strOf data)) w := fun w => by
    have := cut_at [UInt8.ofNat 4, UInt8.ofNat n] data rest 2 (2 + n) rfl (by rw [hn.out]) w
    rw [hs.out]; exact this
  have hne : (s.toList == (⟨#[]⟩ : ByteArray).toList) = false := by rw [hs.out]; exact strOf_beq _ _
  have hne2 : s.toList.isEmpty = false := by rw [hs.out]; exact strOf_empty _ _
  have b1 : bits .and .u8 4 32 = 0 := by decide
  have b2 : bits .and .u8 4 31 = 4 := by decide
  have hmi : (2 : Int) + n ≤ m := by have := hm2.out; omega
  have hmj : (n : Int) ≤ m - 2 := by omega
  have hm1 : (1 : Int) < m := by omega
  have hn255 : ((n : Int) == 255) = false := by simp; omega
  have hn128 : ((n : Int) == 128) = false := by simp; omega
  have hn129 : (n : Int) ≤ 128 := by omega
  clear hs hn
  go_enter Tryz.func54, Tryz.ntmps54
  go_wp2_with fail
  go_region
  go_wp2_with fail
  have h2 := two_new w (.cells #[.int .u8 0, .bool false, .int .u64 4, .string (strOf data), .slice none 0 0] 43 (0, 0)) (.cells #[.int .u8 0, .bool false, .int .u64 4, .string (strOf data), .slice none 0 0] 43 (0, 0))
  have ck := Lib.cell_of_heap h2.1
  refine bodyPost_ret (v := .tuple #[.agg #[.int .u8 0, .bool false, .int .u64 4, .string (strOf data), .slice none 0 0], .int .i64 (2 + (n : Int)), .int .i64 0]) (by simp [results, Tryz.results54, go_sem, ck]) rfl ⟨rfl, h2.2.2.drew⟩

set_option maxHeartbeats 1000000 in
set_option maxRecDepth 100000 in
theorem berRead1 (w : World) (s : ByteArray) (data rest : List UInt8) (n m : Nat) (hs : Hid (s = strOf (UInt8.ofNat 1 :: UInt8.ofNat n :: (data ++ rest)))) (hn : Hid (data.length = n)) (hlt : n < 128) (h1 : n = 1) (hm : s.size = m) (hm2 : Hid (m = n + 2 + rest.length)) (hml : m ≤ 1000000) (deep : Int) (hd : 0 ≤ deep) :
    Calls Tryz.prog 54 #[.string s, .int .i64 deep] w fun e w' => e = .returned (.tuple #[.agg #[.int .u8 0, .bool false, .int .u64 1, .string (strOf data), .slice none 0 0], .int .i64 (2 + (n : Int)), .int .i64 0]) ∧ Ext none_ w w' := by
  subst h1
  have hd' : ¬ deep < 0 := by omega
  have hi0 : ∀ w, (Instr.index 9 (.string s) (.int .i64 0)).run Tryz.prog w = .ok (.int .u8 1) w := fun w => by
    have := idx_at (UInt8.ofNat 1 :: UInt8.ofNat 1 :: (data ++ rest)) 0 _ rfl w
    rw [hs.out]; exact this
  have hi1 : ∀ w, (Instr.index 9 (.string s) (.int .i64 1)).run Tryz.prog w = .ok (.int .u8 1) w := fun w => by
    have := idx_at (UInt8.ofNat 1 :: UInt8.ofNat 1 :: (data ++ rest)) 1 _ rfl w
    rw [ofNat_toNat' 1 (by omega)] at this
    rw [hs.out]; exact this
  have hcut : ∀ w, (Instr.slice 9 (.string s) (some (.int .i64 2)) (some (.int .i64 3)) none).run Tryz.prog w = .ok (.string (strOf data)) w := fun w => by
    have := cut_at [UInt8.ofNat 1, UInt8.ofNat 1] data rest 2 3 rfl (by rw [hn.out]) w
    rw [hs.out]; exact this
  have hne : (s.toList == (⟨#[]⟩ : ByteArray).toList) = false := by rw [hs.out]; exact strOf_beq _ _
  have hne2 : s.toList.isEmpty = false := by rw [hs.out]; exact strOf_empty _ _
  have b1 : bits .and .u8 1 32 = 0 := by decide
  have b2 : bits .and .u8 1 31 = 1 := by decide
  have hmi : (3 : Int) ≤ m := by have := hm2.out; omega
  have hmj : (1 : Int) ≤ m - 2 := by omega
  have hm1 : (1 : Int) < m := by omega
  clear hs hn
  go_enter Tryz.func54, Tryz.ntmps54
  go_wp2_with fail
  go_region
  go_wp2_with fail
  have h2 := two_new w (.cells #[.int .u8 0, .bool false, .int .u64 1, .string (strOf data), .slice none 0 0] 43 (0, 0)) (.cells #[.int .u8 0, .bool false, .int .u64 1, .string (strOf data), .slice none 0 0] 43 (0, 0))
  have ck := Lib.cell_of_heap h2.1
  refine bodyPost_ret (v := .tuple #[.agg #[.int .u8 0, .bool false, .int .u64 1, .string (strOf data), .slice none 0 0], .int .i64 3, .int .i64 0]) (by simp [results, Tryz.results54, go_sem, ck]) rfl ⟨rfl, h2.2.2.drew⟩

end Go.Proofs.YtocjfcgailkfjaaGreatDoor
end

section
namespace Go.Proofs.YtocjfcgailkfjaaGreatDoor
open Go.RowKit

/-- A part as a value of spec.Ber. -/
def primV : T → Value
  | .prim c t d => .agg #[.int .u8 c, .bool false, .int .u64 t, .string (strOf d), .slice none 0 0]
  | .cons _ _ _ => .nilIface

theorem primV_ber (w : World) (S : Nat → Prop) : ∀ ts : List T, (∀ t ∈ ts, Part t) → BerVL w S ts (ts.map primV)
  | [], _ => by simp [BerVL]
  | t :: ts, h => by
    simp only [List.map_cons, BerVL]
    refine ⟨?_, primV_ber w S ts fun x hx => h x (List.mem_cons_of_mem _ hx)⟩
    obtain ⟨data, -, rfl | ⟨-, rfl⟩⟩ := h t List.mem_cons_self <;> simp [BerV, primV]

/-- One part is read, with more behind it. -/
theorem berReadPart (w : World) (t : T) (rest : List UInt8) (s : ByteArray) (hp : Part t) (hs : Hid (s = strOf (t.enc ++ rest))) (hr : rest.length ≤ 1000) (deep : Int) (hd : 0 ≤ deep) :
    ∃ (tag k : Nat) (data : ByteArray), ((tag : Int) == 0) = false ∧ (∀ w, (Instr.index 9 (.string s) (.int .i64 0)).run Tryz.prog w = .ok (.int .u8 tag) w) ∧ (s.toList == (⟨#[]⟩ : ByteArray).toList) = false ∧ s.toList.isEmpty = false ∧
      Hid (primV t = .agg #[.int .u8 0, .bool false, .int .u64 tag, .string data, .slice none 0 0]) ∧ Hid (t.enc.length = k) ∧ Hid (2 ≤ k ∧ k ≤ 200) ∧ Hid (Calls Tryz.prog 54 #[.string s, .int .i64 deep] w fun e w' => e = .returned (.tuple #[.agg #[.int .u8 0, .bool false, .int .u64 tag, .string data, .slice none 0 0], .int .i64 (k : Nat), .int .i64 0]) ∧ Ext none_ w w') := by
  obtain ⟨data, hl, rfl | ⟨h1, rfl⟩⟩ := hp
  · have hs' := hs.out
    rw [enc_prim _ _ _ hl] at hs'
    refine ⟨4, data.length + 2, strOf data, by decide, fun w => ?_, by rw [hs']; exact strOf_beq _ _, by rw [hs']; exact strOf_empty _ _, Lib.hid rfl, Lib.hid (enc_prim_len _ _ _ hl), Lib.hid (by omega), Lib.hid ?_⟩
    · have := idx_at (UInt8.ofNat 4 :: UInt8.ofNat data.length :: (data ++ rest)) 0 _ rfl w
      rw [hs']; exact this
    · refine (berRead4 w s data rest data.length (data.length + 2 + rest.length) (Lib.hid hs') (Lib.hid rfl) hl (by rw [hs', strOf_size]; simp; omega) (Lib.hid rfl) (by omega) deep hd).mono ?_
      rintro e w' ⟨rfl, E⟩
      exact ⟨by rw [show (2 + (data.length : Int)) = ((data.length + 2 : Nat) : Int) by omega]; rfl, E⟩
  · have hs' := hs.out
    rw [enc_prim _ _ _ hl] at hs'
    refine ⟨1, data.length + 2, strOf data, by decide, fun w => ?_, by rw [hs']; exact strOf_beq _ _, by rw [hs']; exact strOf_empty _ _, Lib.hid rfl, Lib.hid (enc_prim_len _ _ _ hl), Lib.hid (by omega), Lib.hid ?_⟩
    · have := idx_at (UInt8.ofNat 1 :: UInt8.ofNat data.length :: (data ++ rest)) 0 _ rfl w
      rw [hs']; exact this
    · refine (berRead1 w s data rest data.length (data.length + 2 + rest.length) (Lib.hid hs') (Lib.hid rfl) hl h1 (by rw [hs', strOf_size]; simp; omega) (Lib.hid rfl) (by omega) deep hd).mono ?_
      rintro e w' ⟨rfl, E⟩
      exact ⟨by rw [show (2 + (data.length : Int)) = ((data.length + 2 : Nat) : Int) by omega]; rfl, E⟩

/-- The loop over what a sequence holds: what is read, what is left. -/
def SeqSt (w W : World) (kids : List T) (s : ByteArray) : Prop :=
  ∃ (dn rm : List T) (sa : Option Addr) (sn sc : Nat), kids = dn ++ rm ∧ s = strOf (T.encL rm) ∧ W.heap[w.heap.size]? = some (.cells #[.int .u8 0, .bool false, .int .u64 0, .string ⟨#[]⟩, .slice none 0 0] 43 (0, 0)) ∧
    W.heap[w.heap.size + 1]? = some (.cells #[.int .u8 0, .bool true, .int .u64 16, .string ⟨#[]⟩, .slice sa sn sc] 43 (0, 0)) ∧ BerRow W (fun x => w.heap.size + 2 ≤ x) (.slice sa sn sc) (dn.map primV) ∧ Ext none_ w W

def strLen : Value → Nat
  | .string s => s.size
  | _ => 0

set_option maxHeartbeats 2000000 in
set_option maxRecDepth 100000 in
theorem berReadSeq (w : World) (kids : List T) (hp : Hid (∀ t ∈ kids, Part t)) (h3 : kids.length ≤ 3) (n m : Nat) (hlen : Hid ((T.encL kids).length = n)) (hlt : n < 128) (s : ByteArray) (hs : Hid (s = strOf (UInt8.ofNat 48 :: UInt8.ofNat n :: T.encL kids))) (hm : s.size = m) (hm2 : Hid (m = n + 2)) :
    Calls Tryz.prog 54 #[.string s, .int .i64 200] w fun e w' => ∃ sa sn sc, e = .returned (.tuple #[.agg #[.int .u8 0, .bool true, .int .u64 16, .string ⟨#[]⟩, .slice sa sn sc], .int .i64 (2 + (n : Int)), .int .i64 0]) ∧ BerRow w' (fun x => w.heap.size + 2 ≤ x) (.slice sa sn sc) (kids.map primV) ∧ Ext none_ w w' := by
  have hi0 : ∀ w, (Instr.index 9 (.string s) (.int .i64 0)).run Tryz.prog w = .ok (.int .u8 48) w := fun w => by
    have := idx_at (UInt8.ofNat 48 :: UInt8.ofNat n :: T.encL kids) 0 _ rfl w
    rw [hs.out]; exact this
  have hi1 : ∀ w, (Instr.index 9 (.string s) (.int .i64 1)).run Tryz.prog w = .ok (.int .u8 n) w := fun w => by
    have := idx_at (UInt8.ofNat 48 :: UInt8.ofNat n :: T.encL kids) 1 _ rfl w
    rw [ofNat_toNat' n (by omega)] at this
    rw [hs.out]; exact this
  have hcut : ∀ w, (Instr.slice 9 (.string s) (some (.int .i64 2)) (some (.int .i64 (2 + (n : Int)))) none).run Tryz.prog w = .ok (.string (strOf (T.encL kids))) w := fun w => by
    have := cut_at [UInt8.ofNat 48, UInt8.ofNat n] (T.encL kids) [] 2 (2 + n) rfl (by rw [hlen.out]) w
    rw [List.append_nil] at this
    rw [hs.out]; exact this
  have hne : (s.toList == (⟨#[]⟩ : ByteArray).toList) = false := by rw [hs.out]; exact strOf_beq _ _
  have hne2 : s.toList.isEmpty = false := by rw [hs.out]; exact strOf_empty _ _
  have b1 : bits .and .u8 48 32 = 32 := by decide
  have b2 : bits .and .u8 48 31 = 16 := by decide
  have hmi : (2 : Int) + n ≤ m := by have := hm2.out; omega
  have hmj : (n : Int) ≤ m - 2 := by have := hm2.out; omega
  have hm1 : (1 : Int) < m := by omega
  have hml : m ≤ 1000000 := by have := hm2.out; omega
  have hn255 : ((n : Int) == 255) = false := by simp; omega
  have hn128 : ((n : Int) == 128) = false := by simp; omega
  have hn129 : (n : Int) ≤ 128 := by omega
  clear hs
  go_enter Tryz.func54, Tryz.ntmps54
  go_wp2_with fail
  go_region
  go_wp2_with fail
  have h2 := two_new w (.cells #[.int .u8 0, .bool false, .int .u64 0, .string ⟨#[]⟩, .slice none 0 0] 43 (0, 0)) (.cells #[.int .u8 0, .bool true, .int .u64 16, .string ⟨#[]⟩, .slice none 0 0] 43 (0, 0))
  clear hi0 hi1 hcut hne hne2
  go_loopw [14, 15, 16, 17] (fun v14 _ _ _ W => ∃ sb : ByteArray, v14 = .string sb ∧ Hid (SeqSt w W kids sb)) (fun v14 _ _ _ _ => strLen v14)
  case atStart => exact ⟨_, rfl, Lib.hid ⟨[], kids, none, 0, 0, rfl, rfl, h2.1, h2.2.1, .inl ⟨rfl, rfl⟩, h2.2.2.drew⟩⟩
  case round =>
    clear h2
    obtain ⟨sb, rfl, H⟩ := hrel
    obtain ⟨dn, rm, sa, sn, sc, hk, hsb, hz, hb, hrow, hE⟩ := H.out
    have HK := Lib.hid hk
    have HSB := Lib.hid hsb
    have HZ := Lib.hid hz
    have HB := Lib.hid hb
    have HROW := Lib.hid hrow
    clear hk hz hb hrow hsb
    cases rm with
    | nil =>
      have hsb0 : sb = ⟨#[]⟩ := by rw [HSB.out]; unfold T.encL; rfl
      subst hsb0
      have cb := Lib.cell_of_heap HB.out
      have cz := Lib.cell_of_heap HZ.out
      have fz := Lib.frozen_of_heap HZ.out
      go_wp2_with fail
      clear cb cz fz
      have K := heap_set (heap_set (heap_set (heap_set (heap_set HZ.out (i := 0) (.int .u8 0)) (i := 1) (.bool true)) (i := 2) (.int .u64 16)) (i := 3) (.string ⟨#[]⟩)) (i := 4) (.slice sa sn sc)
      have ck := Lib.cell_of_heap K
      have hkn : kids = dn := by rw [HK.out, List.append_nil]
      have EF := (((((Ext.refl (fun b => b = w.heap.size) wr).setAt (b := w.heap.size) (i := 0) (.inr rfl) (.int .u8 0)).setAt (b := w.heap.size) (i := 1) (.inr rfl) (.bool true)).setAt (b := w.heap.size) (i := 2) (.inr rfl) (.int .u64 16)).setAt (b := w.heap.size) (i := 3) (.inr rfl) (.string ⟨#[]⟩)).setAt (b := w.heap.size) (i := 4) (.inr rfl) (.slice sa sn sc)
      have hrow2 := HROW.out.frame (S' := fun x => w.heap.size + 2 ≤ x) (fun b hb hl => ⟨EF.block b hl (fun e => by have h : w.heap.size + 2 ≤ b := hb; omega), hb⟩)
      refine bodyPost_ret (v := .tuple #[.agg #[.int .u8 0, .bool true, .int .u64 16, .string ⟨#[]⟩, .slice sa sn sc], .int .i64 (2 + (n : Int)), .int .i64 0]) (by simp [results, Tryz.results54, go_sem, ck]) rfl ⟨sa, sn, sc, rfl, by rw [hkn]; exact hrow2, hE.trans' EF (fun i hi h => by omega)⟩
    | cons t rm' =>
      have hpt : Part t := hp.out t (by rw [HK.out]; simp)
      have hsum : T.encL (t :: rm') = t.enc ++ T.encL rm' := by unfold T.encL; cases rm' <;> simp [T.encL]
      have hlen2 : (T.encL rm').length ≤ 1000 := by
        have h := hlen.out
        rw [HK.out, T.encL_append, hsum] at h
        simp only [List.length_append] at h
        omega
      obtain ⟨tag, kk, data, htag, hi0, hne, hne2, hpv, hkk, hkb, HCALL⟩ := berReadPart wr t (T.encL rm') sb hpt (Lib.hid (by rw [HSB.out, hsum])) hlen2 199 (by omega)
      obtain ⟨ms, hms⟩ : ∃ ms, sb.size = ms := ⟨_, rfl⟩
      have HMS := Lib.hid (show ms = kk + (T.encL rm').length by rw [← hms, HSB.out, hsum, strOf_size, List.length_append, hkk.out])
      have hms1 : (1 : Int) < ms := by have := HMS.out; have := hkb.out; omega
      have hcut : ∀ w, (Instr.slice 9 (.string sb) (some (.int .i64 (kk : Nat))) none none).run Tryz.prog w = .ok (.string (strOf (T.encL rm'))) w := fun w => by
        have := cut_from t.enc (T.encL rm') kk hkk.out w
        rw [HSB.out, hsum]; exact this
      have HSUM := Lib.hid hsum
      clear hsum H
      go_wp2_with fail
      refine HCALL.out.mono ?_
      rintro e w2 ⟨rfl, E2⟩
      have hz2 := E2.get HZ.out (fun h => h)
      have hb2 := E2.get HB.out (fun h => h)
      have h2 := two_new w2 (.cells #[.int .u8 0, .bool false, .int .u64 tag, .string data, .slice none 0 0] 43 (0, 0)) (.cells #[.int .u8 0, .bool false, .int .u64 tag, .string data, .slice none 0 0] 43 (0, 0))
      have cb := Lib.cell_of_heap (show (w2.alloc (.cells #[.int .u8 0, .bool false, .int .u64 tag, .string data, .slice none 0 0] 43)).heap[w.heap.size + 1]? = _ from heap_old hb2)
      have hrow3 := HROW.out.frame (S' := fun x => w.heap.size + 2 ≤ x) (w' := (w2.alloc (.cells #[.int .u8 0, .bool false, .int .u64 tag, .string data, .slice none 0 0] 43)).alloc (.cells #[.int .u8 0, .bool false, .int .u64 tag, .string data, .slice none 0 0] 43)) (fun b hb hl => ⟨(E2.trans h2.2.2).block b hl (fun h => h), hb⟩)
      have hdl : (dn.map primV).length ≤ 100000 := by
        rw [List.length_map]
        have := h3
        rw [HK.out, List.length_append] at this
        omega
      obtain ⟨sa', sn', sc', W', hrun, hB', E4⟩ := append_ber _ _ _ _ (w2.heap.size + 1) _ _ _ _ _ hrow3 h2.2.1 (by simp [Value.oneCell']) hdl
      have hown : ∀ x, (Value.slice sa sn sc).ownBlock = some x → w.heap.size + 2 ≤ x := fun x hx => by
        rcases HROW.out with ⟨e, _⟩ | ⟨g', cap, cur, e, hS, _⟩
        · cases e; simp [Value.ownBlock] at hx
        · cases e; simp [Value.ownBlock] at hx; have h : w.heap.size + 2 ≤ g' := hS; omega
      have hsz2 := E2.size
      have hszw := hE.size
      have hbl := lt_of_block HB.out
      have hzW := E4.get (h2.2.2.get hz2 (fun h => h)) (fun h => by have := hown _ h; omega)
      have hbW := E4.get (h2.2.2.get hb2 (fun h => h)) (fun h => by have := hown _ h; omega)
      have E04 : Ext none_ w W' := ((hE.trans E2).trans h2.2.2).trans' E4 (fun x hx h => by have := hown x h; omega)
      have hrow4 : BerRow W' (fun x => w.heap.size + 2 ≤ x) (.slice sa' sn' sc') ((dn ++ [t]).map primV) := by
        rw [List.map_append, List.map_cons, List.map_nil, hpv.out]
        refine hB'.frame fun x hx hx2 => ⟨rfl, ?_⟩
        rcases hx with hx | hx
        · exact hown x hx
        · simp at hx; show w.heap.size + 2 ≤ x; omega
      have HR4 := Lib.hid hrow4
      have HZW := Lib.hid hzW
      have HBW := Lib.hid hbW
      have cW := Lib.cell_of_heap hbW
      have fW := Lib.frozen_of_heap hbW
      clear hrow3 hrow4 hB' E4 hz2 hb2 h2 hzW hbW hne hne2 hi0
      go_wp2_with (at_builtin; refine Lib.wpList_append_run _ rfl _ _ _ _ rfl _ _ rfl rfl _ _ hrun ?_)
      go_roundw
      case rel =>
        have hb5 := heap_set HBW.out (i := 4) (.slice sa' sn' sc')
        have hz5 : (W'.setCell ⟨w.heap.size + 1, 4, none⟩ (.slice sa' sn' sc')).heap[w.heap.size]? = _ := heap_set_ne HZW.out (by omega)
        have EF := (Ext.refl (fun b => b = w.heap.size + 1) W').setAt (b := w.heap.size + 1) (i := 4) (.inr rfl) (.slice sa' sn' sc')
        have hrow5 := HR4.out.frame (S' := fun x => w.heap.size + 2 ≤ x) (fun b hb hl => ⟨EF.block b hl (fun e => by have h : w.heap.size + 2 ≤ b := hb; omega), hb⟩)
        have hst : SeqSt w (W'.setCell ⟨w.heap.size + 1, 4, none⟩ (.slice sa' sn' sc')) kids (strOf (T.encL rm')) :=
          ⟨dn ++ [t], rm', sa', sn', sc', by rw [HK.out]; simp, rfl, hz5, hb5, hrow5, E04.trans' EF (fun i hi h => by omega)⟩
        first
          | exact ⟨_, rfl, Lib.hid hst⟩
          | (repeat apply Exists.intro
             exact ⟨⟨_, rfl, Lib.hid hst⟩, rfl⟩)
      case measure =>
        have h := HMS.out
        have h2 := hkb.out
        have h4 := strOf_size (T.encL rm')
        simp only [strLen]
        omega

/-- spec.BerRead of a written control. -/
theorem berReadTop (w : World) (kd : List UInt8) (cb vl : Option (List UInt8)) (crit : Bool) (hc : CritB crit cb) (hk : kd.length ≤ 40) (hv : ∀ v, vl = some v → v.length ≤ 80) :
    Calls Tryz.prog 26 #[.string (strOf (ctlC kd cb vl).enc)] w fun e w' => ∃ v n, e = .returned (.tuple #[v, .int .i64 (n : Nat), .int .i64 0]) ∧ Hid ((ctlC kd cb vl).enc.length = n) ∧ BerV w' (fun b => w.heap.size ≤ b) (ctlC kd cb vl) v ∧ Ext none_ w w' := by
  have hp := kids_parts kd cb vl crit hc hk hv
  have h3 := kids_three kd cb vl
  have hs := kids_short kd cb vl crit hc hk hv
  have henc : (ctlC kd cb vl).enc = UInt8.ofNat 48 :: UInt8.ofNat (T.encL (kidsC kd cb vl)).length :: T.encL (kidsC kd cb vl) := enc_cons 0 16 _ hs
  have E0 := (Ext.refl none_ w).alloc (.cells #[.int .u8 0, .bool false, .int .u64 0, .string ⟨#[]⟩, .slice none 0 0] 43)
  have H := Lib.hid (berReadSeq (w.alloc (.cells #[.int .u8 0, .bool false, .int .u64 0, .string ⟨#[]⟩, .slice none 0 0] 43)) (kidsC kd cb vl) (Lib.hid hp) h3 (T.encL (kidsC kd cb vl)).length ((T.encL (kidsC kd cb vl)).length + 2) (Lib.hid rfl) hs (strOf (ctlC kd cb vl).enc) (Lib.hid (by rw [henc])) (by rw [henc, strOf_size]; simp) (Lib.hid rfl))
  have hb0 := heap_new w (.cells #[.int .u8 0, .bool false, .int .u64 0, .string ⟨#[]⟩, .slice none 0 0] 43 (0, 0))
  have HB0 := Lib.hid hb0
  have HEN := Lib.hid henc
  clear hb0 henc
  obtain ⟨L, hL⟩ : ∃ L, (T.encL (kidsC kd cb vl)).length = L := ⟨_, rfl⟩
  rw [hL] at H
  have HL := Lib.hid hL
  clear hL hs
  go_enter Tryz.func26, Tryz.ntmps26
  go_wp2_with fail
  refine H.out.mono ?_
  rintro e w1 ⟨sa, sn, sc, rfl, hrow, E1⟩
  have hz := E1.get HB0.out (fun h => h)
  have HROW := Lib.hid hrow
  have HZ := Lib.hid hz
  have c0 := Lib.cell_of_heap hz
  have f0 := Lib.frozen_of_heap hz
  clear hrow hz
  go_wp2_with fail
  clear c0 f0
  have K := heap_set (heap_set (heap_set (heap_set (heap_set HZ.out (i := 0) (.int .u8 0)) (i := 1) (.bool true)) (i := 2) (.int .u64 16)) (i := 3) (.string ⟨#[]⟩)) (i := 4) (.slice sa sn sc)
  have ck := Lib.cell_of_heap K
  have EF := (((((Ext.refl (fun b => b = w.heap.size) w1).setAt (b := w.heap.size) (i := 0) (.inr rfl) (.int .u8 0)).setAt (b := w.heap.size) (i := 1) (.inr rfl) (.bool true)).setAt (b := w.heap.size) (i := 2) (.inr rfl) (.int .u64 16)).setAt (b := w.heap.size) (i := 3) (.inr rfl) (.string ⟨#[]⟩)).setAt (b := w.heap.size) (i := 4) (.inr rfl) (.slice sa sn sc)
  have hrow2 := HROW.out.frame (S' := fun x => w.heap.size ≤ x) (fun b hb hl => ⟨EF.block b hl (fun e => by simp at hb; omega), by simp at hb; omega⟩)
  refine bodyPost_ret (v := .tuple #[.agg #[.int .u8 0, .bool true, .int .u64 16, .string ⟨#[]⟩, .slice sa sn sc], .int .i64 (2 + (L : Int)), .int .i64 0]) (by simp [results, Tryz.results26, go_sem, ck]) rfl ⟨_, L + 2, by rw [show (2 + (L : Int)) = ((L + 2 : Nat) : Int) by omega], Lib.hid (by rw [HEN.out]; simp [HL.out]), ?_, (E0.trans E1).trans' EF (fun i hi h => by omega)⟩
  unfold ctlC BerV
  exact ⟨_, _, rfl, hrow2, primV_ber _ _ _ hp⟩

end Go.Proofs.YtocjfcgailkfjaaGreatDoor
end
