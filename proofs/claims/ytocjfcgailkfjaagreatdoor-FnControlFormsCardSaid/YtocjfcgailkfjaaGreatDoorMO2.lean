/- A written control's tree is fine, and what was written is one of its forms. Reading a packet out of bytes in memory; a buffer is emptied. -/
import Derived.Test.YtocjfcgailkfjaaGreatDoorMN2
import Derived.Test.YtocjfcgailkfjaaGreatDoorMG1
import Derived.Test.YtocjfcgailkfjaaGreatDoorMJ1
import Derived.Test.YtocjfcgailkfjaaGreatDoorME3

set_option linter.unusedVariables false
set_option linter.unusedSimpArgs false
set_option linter.unusedSectionVars false

section
namespace Go.Proofs.YtocjfcgailkfjaaGreatDoor
open Go.RowKit

theorem ofNat_toNat' (n : Nat) (h : n < 256) : (UInt8.ofNat n).toNat = n := UInt8.toNat_ofNat_of_lt' (show _ < 256 by omega)

theorem lenEnc_short (n : Nat) (h : n < 128) : lenEnc n = [UInt8.ofNat n] := by
  unfold lenEnc
  rw [if_pos (by omega)]

theorem lenForm_short (n : Nat) (h : n < 128) : LenForm (n : Nat) (lenEnc n) := by
  rw [lenEnc_short n h]
  have k := LenForm.short (UInt8.ofNat n) (by rw [ofNat_toNat' n (by omega)]; exact h)
  rwa [ofNat_toNat' n (by omega)] at k

theorem enc_prim (cls tag : Nat) (data : List UInt8) (h : data.length < 128) : (T.prim cls tag data).enc = UInt8.ofNat (cls * 64 + 0 + tag) :: UInt8.ofNat data.length :: data := by
  simp [T.enc, encOf, lenEnc_short _ h]
theorem enc_cons (cls tag : Nat) (kids : List T) (h : (T.encL kids).length < 128) : (T.cons cls tag kids).enc = UInt8.ofNat (cls * 64 + 32 + tag) :: UInt8.ofNat (T.encL kids).length :: T.encL kids := by
  simp [T.enc, encOf, lenEnc_short _ h]

theorem wire_prim (cls tag : Nat) (data : List UInt8) (hc : cls ≤ 3) (ht : tag < 31) (hl : data.length < 128) : Wire (.prim cls tag data) (T.prim cls tag data).enc := by
  have k := Wire.prim cls tag data (lenEnc data.length) (UInt8.ofNat (cls * 64 + 0 + tag)) (by rw [ofNat_toNat' _ (by omega)]; omega) (lenForm_short _ hl)
  rw [lenEnc_short _ hl] at k
  rw [enc_prim cls tag data hl]
  exact k
theorem wire_cons (cls tag : Nat) (kids : List T) (hc : cls ≤ 3) (ht : tag < 31) (hk : WireL kids (T.encL kids)) (hl : (T.encL kids).length < 128) : Wire (.cons cls tag kids) (T.cons cls tag kids).enc := by
  have k := Wire.definite cls tag kids (T.encL kids) (lenEnc (T.encL kids).length) (UInt8.ofNat (cls * 64 + 32 + tag)) (by rw [ofNat_toNat' _ (by omega)]) hk (by omega) (lenForm_short _ hl)
  rw [lenEnc_short _ hl] at k
  rw [enc_cons cls tag kids hl]
  exact k

/-- A part of a control as it is written: octets, or one byte of truth. -/
def Part (t : T) : Prop := ∃ data, data.length < 128 ∧ (t = .prim 0 4 data ∨ (data.length = 1 ∧ t = .prim 0 1 data))

theorem wireL_parts : ∀ ts : List T, (∀ t ∈ ts, Part t) → WireL ts (T.encL ts)
  | [], _ => by unfold T.encL; exact .nil
  | t :: ts, h => by
    unfold T.encL
    refine .cons t ts _ _ ?_ (wireL_parts ts fun x hx => h x (List.mem_cons_of_mem _ hx))
    obtain ⟨data, hd, rfl | ⟨-, rfl⟩⟩ := h t List.mem_cons_self
    · exact wire_prim _ _ _ (by omega) (by omega) hd
    · exact wire_prim _ _ _ (by omega) (by omega) hd
theorem fineL_parts : ∀ ts : List T, (∀ t ∈ ts, Part t) → T.fineL ts ∧ T.deepL ts = 0 ∧ T.wtL ts ≤ 140 * ts.length
  | [], _ => by simp [T.fineL, T.deepL, T.wtL]
  | t :: ts, h => by
    obtain ⟨k1, k2, k3⟩ := fineL_parts ts fun x hx => h x (List.mem_cons_of_mem _ hx)
    obtain ⟨data, hd, rfl | ⟨h1, rfl⟩⟩ := h t List.mem_cons_self
    · refine ⟨?_, by simp [T.deepL, T.deep, k2], by simp [T.wtL, T.wt]; omega⟩
      unfold T.fineL T.fine
      exact ⟨⟨by omega, by omega, by omega, fun _ => .inr rfl⟩, k1⟩
    · refine ⟨?_, by simp [T.deepL, T.deep, k2], by simp [T.wtL, T.wt]; omega⟩
      unfold T.fineL T.fine
      exact ⟨⟨by omega, by omega, by omega, fun _ => .inl ⟨by omega, by omega, by omega⟩⟩, k1⟩

theorem kids_parts (kd : List UInt8) (cb vl : Option (List UInt8)) (crit : Bool) (hc : CritB crit cb) (hk : kd.length ≤ 40) (hv : ∀ v, vl = some v → v.length ≤ 80) : ∀ t ∈ kidsC kd cb vl, Part t := by
  intro t ht
  unfold kidsC at ht
  rcases List.mem_cons.1 ht with rfl | ht
  · exact ⟨kd, by omega, .inl rfl⟩
  · rcases List.mem_append.1 ht with ht | ht
    · rcases hc with ⟨_, rfl⟩ | ⟨_, bs, hb, rfl⟩
      · simp at ht
      · simp only [Option.toList_some, List.map_cons, List.map_nil, List.mem_singleton] at ht
        exact ⟨bs, by omega, .inr ⟨hb, ht⟩⟩
    · cases vl with
      | none => simp at ht
      | some v =>
        simp only [Option.toList_some, List.map_cons, List.map_nil, List.mem_singleton] at ht
        exact ⟨v, by have := hv v rfl; omega, .inl ht⟩
theorem kids_three (kd : List UInt8) (cb vl : Option (List UInt8)) : (kidsC kd cb vl).length ≤ 3 := by
  cases cb <;> cases vl <;> simp [kidsC]
theorem enc_prim_len (cls tag : Nat) (data : List UInt8) (h : data.length < 128) : (T.prim cls tag data).enc.length = data.length + 2 := by
  rw [enc_prim _ _ _ h]; simp
theorem kids_short (kd : List UInt8) (cb vl : Option (List UInt8)) (crit : Bool) (hc : CritB crit cb) (hk : kd.length ≤ 40) (hv : ∀ v, vl = some v → v.length ≤ 80) : (T.encL (kidsC kd cb vl)).length < 128 := by
  have h1 := enc_prim_len 0 4 kd (by omega)
  have h2 : (T.encL (cb.toList.map (T.prim 0 1))).length ≤ 3 := by
    rcases hc with ⟨_, rfl⟩ | ⟨_, bs, hb, rfl⟩
    · simp [T.encL]
    · have := enc_prim_len 0 1 bs (by omega)
      simp [T.encL]; omega
  have h3 : (T.encL (vl.toList.map (T.prim 0 4))).length ≤ 82 := by
    cases vl with
    | none => simp [T.encL]
    | some v =>
      have := hv v rfl
      have := enc_prim_len 0 4 v (by omega)
      simp [T.encL]; omega
  unfold kidsC
  simp only [T.encL, T.encL_append, List.length_append]
  omega

/-- All that is asked of a written control. -/
theorem ctlw_good (kd : List UInt8) (cb vl : Option (List UInt8)) (crit : Bool) (hc : CritB crit cb) (hk : kd.length ≤ 40) (hv : ∀ v, vl = some v → v.length ≤ 80) :
    (ctlC kd cb vl).fine ∧ (ctlC kd cb vl).deep ≤ 800 ∧ (ctlC kd cb vl).wt ≤ 50000 ∧ Wire (ctlC kd cb vl) (ctlC kd cb vl).enc ∧ (ctlC kd cb vl).enc.length ≤ 130 := by
  have hp := kids_parts kd cb vl crit hc hk hv
  have h3 := kids_three kd cb vl
  have hs := kids_short kd cb vl crit hc hk hv
  obtain ⟨k1, k2, k3⟩ := fineL_parts _ hp
  unfold ctlC
  refine ⟨?_, ?_, ?_, wire_cons _ _ _ (by omega) (by omega) (wireL_parts _ hp) hs, ?_⟩
  · unfold T.fine
    exact ⟨by omega, by omega, .inl (by omega), by omega, by omega, k1⟩
  · simp [T.deep, k2]
  · simp only [T.wt]; omega
  · rw [enc_cons _ _ _ hs]; simp; omega

theorem page_good (bs ck : List UInt8) (h1 : 1 ≤ bs.length) (h4 : bs.length ≤ 4) (hc : ck.length ≤ 40) : (pageT bs ck).fine ∧ (pageT bs ck).deep ≤ 800 ∧ Wire (pageT bs ck) (pageT bs ck).enc ∧ (pageT bs ck).enc.length ≤ 80 ∧ (pageT bs ck).enc ≠ [] := by
  have a1 := enc_prim_len 0 2 bs (by omega)
  have a2 := enc_prim_len 0 4 ck (by omega)
  have hs : (T.encL [.prim 0 2 bs, .prim 0 4 ck]).length < 60 := by simp [T.encL]; omega
  have hw : WireL [.prim 0 2 bs, .prim 0 4 ck] (T.encL [.prim 0 2 bs, .prim 0 4 ck]) := by
    simp only [T.encL]
    exact .cons _ _ _ _ (wire_prim _ _ _ (by omega) (by omega) (by omega)) (.cons _ _ _ _ (wire_prim _ _ _ (by omega) (by omega) (by omega)) .nil)
  unfold pageT
  refine ⟨?_, by simp [T.deep, T.deepL], wire_cons _ _ _ (by omega) (by omega) hw (by omega), ?_, ?_⟩
  · have f1 : T.fine (.prim 0 2 bs) := by unfold T.fine; exact ⟨by omega, by omega, by omega, fun _ => .inl ⟨by omega, h1, by omega⟩⟩
    have f2 : T.fine (.prim 0 4 ck) := by unfold T.fine; exact ⟨by omega, by omega, by omega, fun _ => .inr rfl⟩
    unfold T.fine
    refine ⟨by omega, by omega, .inl (by omega), by omega, by simp, ?_⟩
    unfold T.fineL
    refine ⟨f1, ?_⟩
    unfold T.fineL
    refine ⟨f2, ?_⟩
    unfold T.fineL
    trivial
  · rw [enc_cons _ _ _ (by omega)]; simp; omega
  · rw [enc_cons _ _ _ (by omega)]; simp

end Go.Proofs.YtocjfcgailkfjaaGreatDoor
end

section
namespace Go.Proofs.YtocjfcgailkfjaaGreatDoor
open Go.RowKit

set_option maxHeartbeats 400000 in
theorem bufBytesR_any (w : World) (d : Nat) (row : Option Nat) (bs : List UInt8) (h : BufAt w d row bs) (hne : bs ≠ []) :
    Calls Tryz.prog 85 #[.pointer (some ⟨d, 0, none⟩)] w fun e w' => (∃ g n c, e = .returned (.slice (some ⟨g, 0, none⟩) n c) ∧ Hid (bs.length = n) ∧ row = some g ∧ BytesAt w' g 0 bs ∧ n ≤ c ∧ c ≤ 9223372036854775807) ∧ Same w w' := by
  obtain ⟨lr, ⟨rfl, rfl, h⟩ | ⟨g, cap, cur, rfl, hgd, h, hg, hcs, hlc, hc, hb⟩⟩ := h
  · exact absurd rfl hne
  · have c0 := Lib.cell_of_heap h
    have hB : BytesAt w g 0 bs := ⟨cur, 5, (0, 0), hg, fun j x hj => by rw [Nat.zero_add]; exact hb j x hj⟩
    have h0 : (0 : Int) ≤ (bs.length : Int) := by omega
    go_enter Tryz.func85, Tryz.ntmps85
    go_wp2
    go_quiet (fail)
    go_wp2
    go_ret
    refine ⟨⟨g, bs.length, cap, ?_, Lib.hid rfl, rfl, hB, hlc, hc⟩, Same.of _⟩
    simp

set_option maxHeartbeats 400000 in
set_option maxRecDepth 100000 in
theorem packetDataR_any (w : World) (S : Nat → Prop) (p cc bt tag : Nat) (val : Value) (bs : List UInt8) (ps : List Nat) (h : PkOwn w S p cc bt tag val bs ps) (hne : bs ≠ []) :
    Calls Tryz.prog 94 #[.pointer (some ⟨p, 0, none⟩)] w fun e w' => (∃ g n c, e = .returned (.tuple #[.slice (some ⟨g, 0, none⟩) n c, .nilIface]) ∧ Hid (bs.length = n) ∧ BytesAt w' g 0 bs ∧ n ≤ c ∧ c ≤ 9223372036854775807) ∧ Same w w' := by
  obtain ⟨d, row, bv, g, ch, ds, hp, hd, -, -, -, -, -, hS, -⟩ := h
  have c0 := Lib.cell_of_heap hp
  have H1 := Lib.hid (bufBytesR_any w d row bs hd hne)
  clear hp hd
  go_enter Tryz.func94, Tryz.ntmps94
  go_wp2_with fail
  refine H1.out.mono ?_
  rintro e w1 ⟨⟨g, n, c, rfl, hn, hrow, hB, hnc, hc⟩, hs⟩
  have HB := Lib.hid hB
  clear hB
  go_wp2_with fail
  go_ret2
  exact ⟨⟨_, _, _, rfl, hn, HB.out, hnc, hc⟩, hs⟩

set_option maxHeartbeats 400000 in
set_option maxRecDepth 100000 in
theorem packetDataN_any (w : World) (S : Nat → Prop) (p cc bt tag : Nat) (val : Value) (bs : List UInt8) (ps : List Nat) (h : PkOwn w S p cc bt tag val bs ps) :
    Calls Tryz.prog 94 #[.pointer (some ⟨p, 0, none⟩)] w fun e w' => ∃ v, e = .returned (.tuple #[v, .nilIface]) ∧ SrcAt w v bs (fun g => S g ∧ g ≠ p) ∧ Same w w' := by
  obtain ⟨d, row, bv, g, ch, ds, hp, hd, -, ⟨-, -, -, hrp, -⟩, -, -, -, hS, -⟩ := h
  have c0 := Lib.cell_of_heap hp
  have H1 := Lib.hid (bufBytes_any w d row bs hd)
  clear hp hd
  go_enter Tryz.func94, Tryz.ntmps94
  go_wp2_with fail
  refine H1.out.mono ?_
  rintro e w1 ⟨⟨v, rfl, a, c, rfl, hsrc⟩, hs⟩
  have HS := Lib.hid hsrc
  clear hsrc
  go_wp2_with fail
  go_ret2
  exact ⟨_, rfl, ⟨a, c, rfl, HS.out.imp id fun ⟨g, e1, e2, e3⟩ => ⟨g, e1, e2, hS g e3, fun e => hrp (e ▸ e3)⟩⟩, hs⟩

set_option maxHeartbeats 400000 in
set_option maxRecDepth 100000 in
theorem newBuffer_any (w : World) (a : Option Addr) (n c : Nat) :
    Calls Tryz.prog 125 #[.slice a n c] w fun e w' => e = .returned (.pointer (some ⟨w.heap.size, 0, none⟩)) ∧ w' = w.alloc (.cells #[.slice a n c, .int .i64 0, .int .i8 0] 208) := by
  go_enter Tryz.func125, Tryz.ntmps125
  go_wp2_with fail
  go_ret
  exact ⟨rfl, rfl⟩

set_option maxHeartbeats 400000 in
set_option maxRecDepth 100000 in
theorem decodePacketErr_any (w : World) (ea : Addr) (g n c : Nat) (t : T) (wire : List UInt8) (hn : Hid (wire.length = n)) (hn2 : n ≤ 100000) (hd : t.deep ≤ 800) (hf : t.fine) (hw : Wire t wire) (hB : BytesAt w g 0 wire) (hnc : n ≤ c) (hc : c ≤ 9223372036854775807) (hE : w.cell? ⟨1, 0, none⟩ = some (.iface 310 (.pointer (some ea)))) :
    Calls Tryz.prog 95 #[.slice (some ⟨g, 0, none⟩) n c] w fun e w' => ∃ p, e = .returned (.tuple #[.pointer (some ⟨p, 0, none⟩), .nilIface]) ∧ PkAt ValOk w' (fun b => w.heap.size ≤ b) t p ∧ Ext none_ w w' := by
  have h1s : 1 < w.heap.size := by have := World.block_lt_of_cell? w ⟨1, 0, none⟩ hE; simpa using this
  have hgl := hB.lt
  have E1 := (Ext.refl none_ w).alloc (.cells #[.slice (some ⟨g, 0, none⟩) n c, .int .i64 0, .int .i8 0] 208)
  have hrd : IsRd true (w.alloc (.cells #[.slice (some ⟨g, 0, none⟩) n c, .int .i64 0, .int .i8 0] 208)) w.heap.size g (wire ++ []) := by
    rw [List.append_nil]
    exact ⟨n, c, 0, _, heap_new w _, by omega, by have := hn.out; omega, hnc, hc, hB.ext E1 (fun h => h), rfl⟩
  have hcall := reads_any true w.heap.size g ea (by omega) 800 t hd hf 0 (by omega) _ wire [] hw hrd (by rw [E1.cell (p := ⟨1, 0, none⟩) h1s (fun h => h)]; exact hE)
  rw [hn.out] at hcall
  have HC := Lib.hid hcall
  clear hcall hrd hB hE
  go_enter Tryz.func95, Tryz.ntmps95
  go_wp2_with fail
  refine (newBuffer_any w (some ⟨g, 0, none⟩) n c).mono ?_
  rintro e w2 ⟨rfl, rfl⟩
  go_wp2_with fail
  refine HC.out.mono ?_
  rintro e w' ⟨p, rfl, h1, h2, h3⟩
  have H1 := Lib.hid h1
  clear h1
  go_wp2_with fail
  refine bodyPost_ret (v := .tuple #[.pointer (some ⟨p, 0, none⟩), .nilIface]) (by simp [results, Tryz.results95]) rfl ⟨_, rfl, PkAt.frame (fun b hb _ => ⟨rfl, by simp at hb; omega⟩) _ _ H1.out, E1.trans' h3 fun b hb h => ?_⟩
  omega

set_option maxHeartbeats 400000 in
set_option maxRecDepth 100000 in
theorem reset_any (w : World) (d : Nat) (row : Option Nat) (bs : List UInt8) (h : BufAt w d row bs) :
    Calls Tryz.prog 126 #[.pointer (some ⟨d, 0, none⟩)] w fun e w' => e = .returned (.tuple #[]) ∧ BufAt w' d row [] ∧ Ext (fun b => b = d) w w' := by
  obtain ⟨lr, ⟨rfl, rfl, h⟩ | ⟨g, cap, cur, rfl, hgd, h, hg, hcs, hlc, hc, hb⟩⟩ := h
  · have c0 := Lib.cell_of_heap h
    have f0 := Lib.frozen_of_heap h
    have HD := Lib.hid h
    clear h
    go_enter Tryz.func126, Tryz.ntmps126
    go_wp2_with fail
    refine bodyPost_end (v := .tuple #[]) (by simp [results, Tryz.results126]) rfl ⟨rfl, ⟨0, .inl ⟨rfl, rfl, heap_set (heap_set (heap_set HD.out (i := 0) (.slice none 0 0)) (i := 1) (.int .i64 0)) (i := 2) (.int .i8 0)⟩⟩, ?_⟩
    exact (((Ext.refl (fun b => b = d) w).setAt (b := d) (.inr rfl) _).setAt (b := d) (.inr rfl) _).setAt (b := d) (.inr rfl) _
  · have c0 := Lib.cell_of_heap h
    have f0 := Lib.frozen_of_heap h
    have h0 : (0 : Int) ≤ (cap : Int) := by omega
    have HD := Lib.hid h
    have HG := Lib.hid hg
    clear h hg
    go_enter Tryz.func126, Tryz.ntmps126
    go_wp2_with fail
    refine bodyPost_end (v := .tuple #[]) (by simp [results, Tryz.results126]) rfl ⟨rfl, ⟨0, .inr ⟨g, cap, cur, rfl, hgd, heap_set (heap_set (heap_set HD.out (i := 0) (.slice (some ⟨g, 0, none⟩) 0 cap)) (i := 1) (.int .i64 0)) (i := 2) (.int .i8 0), heap_set_ne (heap_set_ne (heap_set_ne HG.out hgd) hgd) hgd, hcs, by simp, hc, fun j x hj => by simp at hj⟩⟩, ?_⟩
    exact (((Ext.refl (fun b => b = d) w).setAt (b := d) (.inr rfl) _).setAt (b := d) (.inr rfl) _).setAt (b := d) (.inr rfl) _

set_option maxHeartbeats 400000 in
set_option maxRecDepth 100000 in
theorem truncate_any (w : World) (d : Nat) (row : Option Nat) (bs : List UInt8) (h : BufAt w d row bs) :
    Calls Tryz.prog 96 #[.pointer (some ⟨d, 0, none⟩), .int .i64 0] w fun e w' => e = .returned (.tuple #[]) ∧ BufAt w' d row [] ∧ Ext (fun b => b = d) w w' := by
  have H := Lib.hid (reset_any w d row bs h)
  clear h
  go_enter Tryz.func96, Tryz.ntmps96
  go_wp2_with fail
  refine H.out.mono ?_
  rintro e w' ⟨rfl, h1, h2⟩
  have H1 := Lib.hid h1
  clear h1
  go_wp2_with fail
  exact bodyPost_ret (v := .tuple #[]) (by simp [results, Tryz.results96]) rfl ⟨rfl, H1.out, h2⟩

end Go.Proofs.YtocjfcgailkfjaaGreatDoor
end
