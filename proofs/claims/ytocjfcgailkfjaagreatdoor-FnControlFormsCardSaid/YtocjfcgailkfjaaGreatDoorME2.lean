/- readPacket at a primitive value. readPacket at an end of contents. -/
import Derived.Test.YtocjfcgailkfjaaGreatDoorME1
import Derived.Deep.DeepCutAuto
import Derived.Deep.DrawnRows
import Derived.BigRegion

set_option linter.unusedVariables false
set_option linter.unusedSimpArgs false
set_option linter.unusedSectionVars false

section
namespace Go.Proofs.YtocjfcgailkfjaaGreatDoor
open Go.RowKit

attribute [local go_sem ↓] Go.wp_at_zero Go.wp_at_succ

theorem three_new (w : World) (a b c d : Obj) : ((((w.alloc a).alloc b).alloc c).alloc d).heap[w.heap.size + 1]? = some b ∧ ((((w.alloc a).alloc b).alloc c).alloc d).heap[w.heap.size + 1 + 1]? = some c ∧ ((((w.alloc a).alloc b).alloc c).alloc d).heap[w.heap.size + 1 + 1 + 1]? = some d ∧ Ext none_ w ((((w.alloc a).alloc b).alloc c).alloc d) := by
  refine ⟨heap_old (heap_old ?_), heap_old ?_, ?_, ((((Ext.refl none_ w).alloc a).alloc b).alloc c).alloc d⟩
  · have := heap_new (w.alloc a) b; rwa [World.size_alloc] at this
  · have := heap_new ((w.alloc a).alloc b) c; rwa [World.size_alloc, World.size_alloc] at this
  · have := heap_new (((w.alloc a).alloc b).alloc c) d; rwa [World.size_alloc, World.size_alloc, World.size_alloc] at this

theorem make_ptrs (w : World) : (Instr.makeSlice 218 (.int .i64 0) (.int .i64 2)).run Tryz.prog w = .ok (.slice (some ⟨w.heap.size, 0, none⟩) 0 2) (w.alloc (.cells #[.pointer none, .pointer none] 87)) := by kernel_rfl
theorem make_none (w : World) : (Instr.makeSlice 26 (.int .i64 0) (.int .i64 0)).run Tryz.prog w = .ok (.slice (some ⟨w.heap.size, 0, none⟩) 0 0) (w.alloc (.cells #[] 5)) := by kernel_rfl

theorem write_n (w : World) (d : Nat) (row : Option Nat) (sa : Option Addr) (sc n : Nat) (bs cs : List UInt8) (hn : Hid (cs.length = n)) (h : BufAt w d row bs) (hs : cs = [] ∨ ∃ sg so, sa = some ⟨sg, so, none⟩ ∧ BytesAt w sg so cs ∧ sg ≠ d ∧ row ≠ some sg) (hlim : bs.length + n ≤ 140737488355328) :
    Calls Tryz.prog 81 #[.pointer (some ⟨d, 0, none⟩), .slice sa n sc] w fun e w' => e = .returned (.tuple #[.int .i64 n, .nilIface]) ∧ Written w w' d row (bs ++ cs) := by
  have hn' := hn.out
  subst hn'
  exact write_any w d row sa sc bs cs h hs hlim

theorem decodeString_n (w : World) (g o c n : Nat) (l : List UInt8) (hn : Hid (l.length = n)) (hB : BytesAt w g o l) :
    Calls Tryz.prog 100 #[.slice (some ⟨g, o, none⟩) n c] w fun e w' => e = .returned (.string (strOf l)) ∧ w' = w := by
  have hn' := hn.out
  subst hn'
  exact decodeString_any w g o c l hB

/-- What a fresh packet is, with its contents written. -/
theorem own_of (w : World) (S : Nat → Prop) (p cc bt tag d g : Nat) (val bv ch : Value) (row' : Option Nat) (data : List UInt8) (ds : ByteArray) (hp : PkBlk w p cc bt tag val bv d ch ds) (hd : BufAt w d row' data) (hg : ChAt w g ch []) (hS : S p ∧ S d ∧ S g) (hne : g ≠ p ∧ p ≠ d ∧ g ≠ d) (hr : ∀ k, row' = some k → S k ∧ k ≠ p ∧ k ≠ g) (hbv : IsSl bv := by exact ⟨_, _, _, rfl⟩) : PkOwn w S p cc bt tag val data [] :=
  ⟨d, row', bv, g, ch, ds, hp, hd, hg, ⟨hne.1, hne.2.1, hne.2.2, fun e => (hr p e).2.1 rfl, fun e => (hr g e).2.2 rfl⟩, hS.1, hS.2.1, hS.2.2, fun k e => (hr k e).1, hbv⟩

set_option maxHeartbeats 1000000 in
set_option maxRecDepth 100000 in
theorem readPrim (w : World) (k : Bool) (r g : Nat) (dep cc tag : Nat) (data lf rest : List UInt8) (x : UInt8) (ea : Addr) (N m : Nat)
    (hx : Hid (x.toNat = cc + 0 + tag)) (hc : Hid (cc % 64 = 0)) (hcl : cc < 256) (ht : tag < 31) (hl : LenForm (N : Nat) lf) (hN : Hid (data.length = N)) (hN480 : N ≤ 480) (hm : Hid (m = lf.length + 1)) (hm20 : m ≤ 20)
    (hdep : dep < 1000) (h : IsRd k w r g (x :: (lf ++ (data ++ rest)))) (hE : w.cell? ⟨1, 0, none⟩ = some (.iface 310 (.pointer (some ea)))) (h1r : r ≠ 1)
    (cls : Nat) (hcls : Hid (cc = cls * 64)) (hk : Hid ((cc = 0 ∧ ((tag = 1 ∨ tag = 2 ∨ tag = 10) ∧ N ≤ 8 ∨ tag = 4)) ∨ cc ≠ 0)) :
    Calls Tryz.prog 111 #[.iface (rdT k) (.pointer (some ⟨r, 0, none⟩)), .int .i64 dep] w fun e w' => ∃ p, e = .returned (.tuple #[.pointer (some ⟨p, 0, none⟩), .int .i64 (m + N : Nat), .nilIface]) ∧
      (∃ val, PkOwn w' (fun b => w.heap.size ≤ b) p cc 0 tag val data [] ∧ ValOk cls tag data val) ∧ IsRd k w' r g rest ∧ Ext (fun b => b = r) w w' := by
  have hmk := make_ptrs
  have hmz := make_none
  go_enter Tryz.func111, Tryz.ntmps111
  go_wp2_with fail
  refine (readHeader_any w k r g x N lf (data ++ rest) cc 0 tag m hl h hx hc (.inl rfl) ht (by intro h; omega) hm).mono ?_
  rintro e w1 ⟨rfl, h1, E1⟩
  go_upto_region 12 with fail
  refine cutW (fun W => PkBlk W (w1.heap.size + 1) cc 0 tag .nilIface (.slice none 0 0) (w1.heap.size + 1 + 1) (.slice (some ⟨w1.heap.size + 1 + 1 + 1, 0, none⟩) 0 2) ⟨#[]⟩ ∧
    W.heap[w1.heap.size + 1 + 1]? = some (.cells #[.slice none 0 0, .int .i64 0, .int .i8 0] 208 (0, 0)) ∧ W.heap[w1.heap.size + 1 + 1 + 1]? = some (.cells #[.pointer none, .pointer none] 87 (0, 0)) ∧ Ext none_ w1 W) (three_new w1 _ _ _ _) ?_
  rintro W ⟨hp, hd, hg, E2⟩
  obtain ⟨hr0, hg0, hgr⟩ := h1.lt
  have h10 : 1 < w.heap.size := by have := World.block_lt_of_cell? w ⟨1, 0, none⟩ hE; simpa using this
  have hs1 := E1.size
  have hpl := lt_of_block hp
  have hgl := lt_of_block hg
  have h2 := h1.ext E2 (fun h => h) (fun h => h)
  have hE2 : W.cell? ⟨1, 0, none⟩ = some (.iface 310 (.pointer (some ea))) := by
    rw [E2.cell (p := ⟨1, 0, none⟩) (by show 1 < w1.heap.size; omega) (fun h => h), E1.cell (p := ⟨1, 0, none⟩) h10 (fun h => h1r h.symm)]; exact hE
  have E12 : Ext (fun b => b = r) w W := E1.trans (Ext.zero E2)
  have c0 := Lib.cell_of_heap hp
  have f0 := Lib.frozen_of_heap hp
  clear h1 E2 h E1
  go_upto_if 125 with fail
  go_cut [9, 10, 16] from 124 to 151 (fun v9 v10 v16 WW => v9 = .int .i64 (m + N : Nat) ∧ v10 = .nilIface ∧ ∃ b3 c3, v16 = .slice (some ⟨b3, 0, none⟩) N c3 ∧ PkBlk WW (w1.heap.size + 1) cc 0 tag .nilIface (.slice none 0 0) (w1.heap.size + 1 + 1) (.slice (some ⟨w1.heap.size + 1 + 1 + 1, 0, none⟩) 0 2) ⟨#[]⟩ ∧
    WW.heap[w1.heap.size + 1 + 1]? = some (.cells #[.slice none 0 0, .int .i64 0, .int .i8 0] 208 (0, 0)) ∧ WW.heap[w1.heap.size + 1 + 1 + 1]? = some (.cells #[.pointer none, .pointer none] 87 (0, 0)) ∧ BytesAt WW b3 0 data ∧ w1.heap.size + 1 + 1 + 1 < b3 ∧ IsRd k WW r g rest ∧ Ext (fun b => b = r) w WW)
  case first =>
    by_cases hN0 : N = 0
    · have hdn : data = [] := List.eq_nil_of_length_eq_zero (by rw [hN.out]; exact hN0)
      have Hn := Lib.hid hN0
      clear c0 f0
      go_wp2_with fail
      go_meet
      case rel =>
        have E3 := (Ext.refl none_ W).alloc (.cells #[] 5)
        have hN0 := Hn.out
        rw [hdn] at h2 ⊢
        refine ⟨by rw [hN0]; rfl, rfl, W.heap.size, 0, by rw [hN0], E3.get hp (fun h => h), E3.get hd (fun h => h), E3.get hg (fun h => h), ⟨#[], 5, (0, 0), heap_new W _, fun _ _ hj => by simp at hj⟩, by omega, h2.ext E3 (fun h => h) (fun h => h), E12.trans (Ext.zero E3)⟩
    · have hNi : (0 : Int) < (N : Int) := by omega
      clear c0 f0
      go_wp2_with fail
      refine (limitReader_any W (rdT k) (.pointer (some ⟨r, 0, none⟩)) (.inr ⟨_, rfl⟩) N).mono ?_
      rintro e w3 ⟨rfl, rfl⟩
      have E3 := (Ext.refl none_ W).alloc (.cells #[.iface (rdT k) (.pointer (some ⟨r, 0, none⟩)), .int .i64 (N : Int)] 362)
      have hsW := E12.size
      go_wp2_with fail
      refine (readAll_any (W.alloc (.cells #[.iface (rdT k) (.pointer (some ⟨r, 0, none⟩)), .int .i64 (N : Int)] 362)) k W.heap.size r g N (data ++ rest) ea (h2.ext E3 (fun h => h) (fun h => h)) (by omega) (by rw [List.length_append, hN.out]; omega) hN480 (heap_new W _) (by omega) (by omega) (by rw [E3.cell (p := ⟨1, 0, none⟩) (by show 1 < W.heap.size; omega) (fun h => h)]; exact hE2) h1r (by omega)).mono ?_
      rintro e w4 ⟨b3, cur, rfl, hb3, hb3h, hcs, hB3, h4, E4⟩
      rw [World.size_alloc] at hb3
      have hdt : (data ++ rest).take N = data := by rw [← hN.out]; simp
      have hdd : (data ++ rest).drop N = rest := by rw [← hN.out]; simp
      rw [hdt] at hB3
      rw [hdd] at h4
      clear hdt hdd hb3h
      go_wp2_with fail
      go_meet
      case rel =>
        have E4' : Ext (fun b => b = r) W w4 := (Ext.zero E3).trans' E4 (fun b hb h => h.elim id (fun h => absurd hb (by omega)))
        have hx4 : ∀ b, b < W.heap.size → b ≠ r → ¬ (b = r ∨ b = W.heap.size) := fun b hb hbr h => by rcases h with h | h <;> omega
        exact ⟨by go_num, rfl, b3, 512, rfl, E4.get (E3.get hp (fun h => h)) (hx4 _ hpl (by omega)), E4.get (E3.get hd (fun h => h)) (hx4 _ (lt_of_block hd) (by omega)), E4.get (E3.get hg (fun h => h)) (hx4 _ hgl (by omega)), hB3, by omega, h4, E12.trans E4'⟩
  case rest =>
    obtain ⟨rfl, rfl, b3, c3, rfl, hp3, hd3, hg3, hB3, hb3, h3, E3⟩ := hcut
    clear c0 f0 hp hd hg h2 hE2 E12
    have c0 := Lib.cell_of_heap hp3
    have f0 := Lib.frozen_of_heap hp3
    have hchA : ChAt wc (w1.heap.size + 1 + 1 + 1) (.slice (some ⟨w1.heap.size + 1 + 1 + 1, 0, none⟩) 0 2) [] := ⟨2, _, rfl, hg3, rfl, by simp, by unfold maxLen; omega, fun j q hj => by simp at hj⟩
    have hbA : BufAt wc (w1.heap.size + 1 + 1) none [] := ⟨0, .inl ⟨rfl, rfl, hd3⟩⟩
    have hwr := write_n wc (w1.heap.size + 1 + 1) none (some ⟨b3, 0, none⟩) c3 N [] data hN hbA (.inr ⟨b3, 0, rfl, hB3, by omega, by simp⟩) (by simp; omega)
    have hgl3 := lt_of_block hg3
    have HW := Lib.hid hwr
    have HC := Lib.hid hchA
    have HD := Lib.hid hd3
    have HG := Lib.hid hg3
    clear hwr hchA hbA hd3 hg3
    rcases hk.out with ⟨rfl, hkk⟩ | hcc
    · go_wp2_with fail
      refine HW.out.mono ?_
      rintro e w5 ⟨rfl, row5, hb5, hr5, E5⟩
      rw [List.nil_append] at hb5
      have hx5 : ∀ b, b ≠ w1.heap.size + 1 + 1 → ¬ (b = w1.heap.size + 1 + 1 ∨ none = some b) := fun b hb h => by rcases h with h | h; exact hb h; cases h
      have hp5 := hp3.ext E5 (hx5 _ (by omega))
      have hg5 := HC.out.ext E5 (hx5 _ (by omega))
      have hB5 := hB3.ext E5 (hx5 _ (by omega))
      have hs3 := E3.size
      have hbl := lt_of_block hp3
      have hr5' : ∀ kk, row5 = some kk → w.heap.size ≤ kk ∧ kk ≠ w1.heap.size + 1 ∧ kk ≠ w1.heap.size + 1 + 1 + 1 := fun kk hk => by
        rcases hr5 with rfl | ⟨k', rfl, hk'⟩
        · cases hk
        · cases hk; omega
      have E5w : Ext (fun b => b = r) w w5 := E3.trans' E5 fun b hb h => by
        rcases h with h | h
        · exact absurd hb (by omega)
        · cases h
      have h5 := h3.ext E5 (hx5 _ (by omega)) (hx5 _ (by omega))
      have fin : ∀ v4 v3 : Value, ∃ WW, WW = (w5.setCell ⟨w1.heap.size + 1, 4, none⟩ v4).setCell ⟨w1.heap.size + 1, 3, none⟩ v3 ∧ BufAt WW (w1.heap.size + 1 + 1) row5 data ∧ ChAt WW (w1.heap.size + 1 + 1 + 1) (.slice (some ⟨w1.heap.size + 1 + 1 + 1, 0, none⟩) 0 2) [] ∧ IsRd k WW r g rest ∧ Ext (fun b => b = r) w WW := fun v4 v3 => by
        have EE := ((Ext.refl (fun b => b = w1.heap.size + 1) w5).setAt (b := w1.heap.size + 1) (i := 4) (.inr rfl) v4).setAt (b := w1.heap.size + 1) (i := 3) (.inr rfl) v3
        exact ⟨_, rfl, hb5.ext EE (by omega) (fun kk hk => (hr5' kk hk).2.1), hg5.ext EE (by omega), h5.ext EE (by omega) (by omega), E5w.trans' EE fun b hb h => absurd hb (by omega)⟩
      have HF := Lib.hid fin
      have HR := Lib.hid hr5'
      have c5 := Lib.cell_of_heap hp5
      have f5 := Lib.frozen_of_heap hp5
      clear c0 f0 fin hr5' hr5 h5 E5w hp3 hB3 h3 E3 E5 hb5 hg5
      clear hk
      rcases hkk with ⟨ht3, h8⟩ | rfl
      · rcases ht3 with rfl | rfl | rfl
        · go_wp2_with fail
          refine (parseInt_any _ b3 0 c3 data N hN h8 (hB5.of_heap (Below.heap_setCell _ _ _ _ (show b3 ≠ w1.heap.size + 1 by omega)))).mono ?_
          rintro e w7 ⟨rfl, hw7⟩
          subst hw7
          have hp6 := heap_set hp5 (i := 4) (.slice (some ⟨b3, 0, none⟩) N c3)
          have c6 := Lib.cell_of_heap hp6
          have f6 := Lib.frozen_of_heap hp6
          have hp7 := heap_set hp6 (i := 3) (.iface 4 (.bool (!(parseI data == 0))))
          have H7 := Lib.hid hp7
          clear hp6 hp7 hp5 hB5 c5 f5
          go_wp2_with fail
          obtain ⟨WW, rfl, hbF, hgF, hiF, hxF⟩ := HF.out (.slice (some ⟨b3, 0, none⟩) N c3) (.iface 4 (.bool (!(parseI data == 0))))
          refine bodyPost_ret (v := .tuple #[.pointer (some ⟨w1.heap.size + 1, 0, none⟩), .int .i64 (m + N : Nat), .nilIface]) (by simp [results, Tryz.results111]) rfl ⟨_, rfl, ⟨.iface 4 (.bool (!(parseI data == 0))), own_of _ _ _ 0 0 1 _ _ _ _ _ row5 data _ H7.out hbF hgF ⟨by omega, by omega, by omega⟩ ⟨by omega, by omega, by omega⟩ HR.out, .inl ⟨by have := hcls.out; omega, rfl, rfl⟩⟩, hiF, hxF⟩
        · go_wp2_with fail
          refine (parseInt_any _ b3 0 c3 data N hN h8 (hB5.of_heap (Below.heap_setCell _ _ _ _ (show b3 ≠ w1.heap.size + 1 by omega)))).mono ?_
          rintro e w7 ⟨rfl, hw7⟩
          subst hw7
          have hp6 := heap_set hp5 (i := 4) (.slice (some ⟨b3, 0, none⟩) N c3)
          have c6 := Lib.cell_of_heap hp6
          have f6 := Lib.frozen_of_heap hp6
          have hp7 := heap_set hp6 (i := 3) (.iface 2 (.int .i64 (parseI data)))
          have H7 := Lib.hid hp7
          clear hp6 hp7 hp5 hB5 c5 f5
          go_wp2_with fail
          obtain ⟨WW, rfl, hbF, hgF, hiF, hxF⟩ := HF.out (.slice (some ⟨b3, 0, none⟩) N c3) (.iface 2 (.int .i64 (parseI data)))
          refine bodyPost_ret (v := .tuple #[.pointer (some ⟨w1.heap.size + 1, 0, none⟩), .int .i64 (m + N : Nat), .nilIface]) (by simp [results, Tryz.results111]) rfl ⟨_, rfl, ⟨.iface 2 (.int .i64 (parseI data)), own_of _ _ _ 0 0 2 _ _ _ _ _ row5 data _ H7.out hbF hgF ⟨by omega, by omega, by omega⟩ ⟨by omega, by omega, by omega⟩ HR.out, .inr (.inl ⟨by have := hcls.out; omega, .inl rfl, rfl⟩)⟩, hiF, hxF⟩
        · go_wp2_with fail
          refine (parseInt_any _ b3 0 c3 data N hN h8 (hB5.of_heap (Below.heap_setCell _ _ _ _ (show b3 ≠ w1.heap.size + 1 by omega)))).mono ?_
          rintro e w7 ⟨rfl, hw7⟩
          subst hw7
          have hp6 := heap_set hp5 (i := 4) (.slice (some ⟨b3, 0, none⟩) N c3)
          have c6 := Lib.cell_of_heap hp6
          have f6 := Lib.frozen_of_heap hp6
          have hp7 := heap_set hp6 (i := 3) (.iface 2 (.int .i64 (parseI data)))
          have H7 := Lib.hid hp7
          clear hp6 hp7 hp5 hB5 c5 f5
          go_wp2_with fail
          obtain ⟨WW, rfl, hbF, hgF, hiF, hxF⟩ := HF.out (.slice (some ⟨b3, 0, none⟩) N c3) (.iface 2 (.int .i64 (parseI data)))
          refine bodyPost_ret (v := .tuple #[.pointer (some ⟨w1.heap.size + 1, 0, none⟩), .int .i64 (m + N : Nat), .nilIface]) (by simp [results, Tryz.results111]) rfl ⟨_, rfl, ⟨.iface 2 (.int .i64 (parseI data)), own_of _ _ _ 0 0 10 _ _ _ _ _ row5 data _ H7.out hbF hgF ⟨by omega, by omega, by omega⟩ ⟨by omega, by omega, by omega⟩ HR.out, .inr (.inl ⟨by have := hcls.out; omega, .inr rfl, rfl⟩)⟩, hiF, hxF⟩
      · go_wp2_with fail
        refine (decodeString_n _ b3 0 c3 N data hN (hB5.of_heap (Below.heap_setCell _ _ _ _ (show b3 ≠ w1.heap.size + 1 by omega)))).mono ?_
        rintro e w7 ⟨rfl, hw7⟩
        subst hw7
        have hp6 := heap_set hp5 (i := 4) (.slice (some ⟨b3, 0, none⟩) N c3)
        have c6 := Lib.cell_of_heap hp6
        have f6 := Lib.frozen_of_heap hp6
        have hp7 := heap_set hp6 (i := 3) (.iface 9 (.string (strOf data)))
        have H7 := Lib.hid hp7
        clear hp6 hp7 hp5 hB5 c5 f5
        go_wp2_with fail
        obtain ⟨WW, rfl, hbF, hgF, hiF, hxF⟩ := HF.out (.slice (some ⟨b3, 0, none⟩) N c3) (.iface 9 (.string (strOf data)))
        refine bodyPost_ret (v := .tuple #[.pointer (some ⟨w1.heap.size + 1, 0, none⟩), .int .i64 (m + N : Nat), .nilIface]) (by simp [results, Tryz.results111]) rfl ⟨_, rfl, ⟨.iface 9 (.string (strOf data)), own_of _ _ _ 0 0 4 _ _ _ _ _ row5 data _ H7.out hbF hgF ⟨by omega, by omega, by omega⟩ ⟨by omega, by omega, by omega⟩ HR.out, .inr (.inr (.inl ⟨by have := hcls.out; omega, rfl, rfl⟩))⟩, hiF, hxF⟩
    · have hcb : ((cc : Int) == 0) = false := by simp; omega
      go_wp2_with fail
      refine HW.out.mono ?_
      rintro e w5 ⟨rfl, row5, hb5, hr5, E5⟩
      rw [List.nil_append] at hb5
      have hx5 : ∀ b, b ≠ w1.heap.size + 1 + 1 → ¬ (b = w1.heap.size + 1 + 1 ∨ none = some b) := fun b hb h => by rcases h with h | h; exact hb h; cases h
      have hp5 := hp3.ext E5 (hx5 _ (by omega))
      have hg5 := HC.out.ext E5 (hx5 _ (by omega))
      have hs3 := E3.size
      have hbl := lt_of_block hp3
      go_wp2_with fail
      refine bodyPost_ret (v := .tuple #[.pointer (some ⟨w1.heap.size + 1, 0, none⟩), .int .i64 (m + N : Nat), .nilIface]) (by simp [results, Tryz.results111]) rfl ⟨_, rfl, ⟨_, own_of w5 _ _ cc 0 tag _ _ _ _ _ row5 data _ hp5 hb5 hg5 ⟨by omega, by omega, by omega⟩ ⟨by omega, by omega, by omega⟩ fun kk hk => ?_, .inr (.inr (.inr ⟨?_, rfl⟩))⟩, h3.ext E5 (hx5 _ (by omega)) (hx5 _ (by omega)), E3.trans' E5 fun b hb h => ?_⟩
      · rcases hr5 with rfl | ⟨k', rfl, hk'⟩
        · cases hk
        · cases hk; omega
      · have := hcls.out; omega
      · rcases h with h | h
        · exact absurd hb (by omega)
        · cases h

end Go.Proofs.YtocjfcgailkfjaaGreatDoor
end

section
namespace Go.Proofs.YtocjfcgailkfjaaGreatDoor
open Go.RowKit

set_option maxHeartbeats 1000000 in
set_option maxRecDepth 100000 in
theorem readEOC (w : World) (k : Bool) (r g : Nat) (dep : Nat) (rest : List UInt8) (hdep : dep < 1000) (h : IsRd k w r g (0 :: ([0] ++ rest))) :
    Calls Tryz.prog 111 #[.iface (rdT k) (.pointer (some ⟨r, 0, none⟩)), .int .i64 dep] w fun e w' => ∃ p, e = .returned (.tuple #[.pointer (some ⟨p, 0, none⟩), .int .i64 2, .nilIface]) ∧
      (∃ d a b c1 c2, PkBlk w' p 0 0 0 .nilIface (.slice a 0 c1) d (.slice b 0 c2) ⟨#[]⟩) ∧ IsRd k w' r g rest ∧ Ext (fun b => b = r) w w' := by
  have hmk := make_ptrs
  have hmz := make_none
  have hl : LenForm 0 [0] := .short 0 (by decide)
  go_enter Tryz.func111, Tryz.ntmps111
  go_wp2_with fail
  refine (readHeader_any w k r g 0 0 [0] rest 0 0 0 2 hl h rfl rfl (.inl rfl) (by omega) (fun h => by omega) rfl).mono ?_
  rintro e w1 ⟨rfl, h1, E1⟩
  go_upto_region 12 with fail
  refine cutW (fun W => PkBlk W (w1.heap.size + 1) 0 0 0 .nilIface (.slice none 0 0) (w1.heap.size + 1 + 1) (.slice (some ⟨w1.heap.size + 1 + 1 + 1, 0, none⟩) 0 2) ⟨#[]⟩ ∧
    W.heap[w1.heap.size + 1 + 1]? = some (.cells #[.slice none 0 0, .int .i64 0, .int .i8 0] 208 (0, 0)) ∧ W.heap[w1.heap.size + 1 + 1 + 1]? = some (.cells #[.pointer none, .pointer none] 87 (0, 0)) ∧ Ext none_ w1 W) (three_new w1 _ _ _ _) ?_
  rintro W ⟨hp, hd, hg, E2⟩
  obtain ⟨hr0, hg0, hgr⟩ := h1.lt
  have hpl := lt_of_block hp
  have hgl := lt_of_block hg
  have hs1 := E1.size
  have h2 := h1.ext E2 (fun h => h) (fun h => h)
  have E12 : Ext (fun b => b = r) w W := E1.trans (Ext.zero E2)
  have E3 := (Ext.refl none_ W).alloc (.cells #[] 5)
  have hp3 : PkBlk (W.alloc (.cells #[] 5)) _ _ _ _ _ _ _ _ _ := E3.get hp (fun h => h)
  have hbA : BufAt (W.alloc (.cells #[] 5)) (w1.heap.size + 1 + 1) none [] := ⟨0, .inl ⟨rfl, rfl, E3.get hd (fun h => h)⟩⟩
  have hwr := write_any (W.alloc (.cells #[] 5)) (w1.heap.size + 1 + 1) none (some ⟨W.heap.size, 0, none⟩) 0 [] [] hbA (.inl rfl) (by simp)
  have HW := Lib.hid hwr
  have c0 := Lib.cell_of_heap hp
  have f0 := Lib.frozen_of_heap hp
  have c3 := Lib.cell_of_heap hp3
  have f3 := Lib.frozen_of_heap hp3
  clear h1 h E1 hwr hbA
  go_wp2_with fail
  refine HW.out.mono ?_
  rintro e w5 ⟨rfl, row5, hb5, hr5, E5⟩
  have hx5 : ∀ b, b ≠ w1.heap.size + 1 + 1 → ¬ (b = w1.heap.size + 1 + 1 ∨ none = some b) := fun b hb h => by rcases h with h | h; exact hb h; cases h
  have hp5 := hp3.ext E5 (hx5 _ (by omega))
  have c5 := Lib.cell_of_heap hp5
  have f5 := Lib.frozen_of_heap hp5
  clear c0 f0 c3 f3
  go_wp2_with fail
  have E56 := (Ext.refl (fun b => b = w1.heap.size + 1) w5).setAt (b := w1.heap.size + 1) (i := 4) (.inr rfl) (.slice (some ⟨W.heap.size, 0, none⟩) 0 0)
  have E25 : Ext (fun b => b = r) w w5 := (E12.trans (Ext.zero E3)).trans' E5 fun b hb h => by
    rcases h with h | h
    · exact absurd hb (by omega)
    · cases h
  refine bodyPost_ret (v := .tuple #[.pointer (some ⟨w1.heap.size + 1, 0, none⟩), .int .i64 2, .nilIface]) (by simp [results, Tryz.results111]) rfl ⟨_, rfl, ⟨_, _, _, _, _, heap_set hp5 _⟩, ?_, ?_⟩
  · exact ((h2.ext E3 (fun h => h) (fun h => h)).ext E5 (hx5 _ (by omega)) (hx5 _ (by omega))).ext E56 (by omega) (by omega)
  · exact E25.trans' E56 fun b hb h => absurd hb (by omega)

end Go.Proofs.YtocjfcgailkfjaaGreatDoor
end
