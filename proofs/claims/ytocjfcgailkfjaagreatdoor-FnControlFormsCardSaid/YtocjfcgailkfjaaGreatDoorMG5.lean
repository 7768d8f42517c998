/- LdapEntryOf. -/
import Derived.Test.YtocjfcgailkfjaaGreatDoorMG4
import Derived.Deep.DeepCutAuto
import Derived.Deep.DrawnRows
import Derived.BigRegion
import Derived.Deep.RegionLaw

set_option linter.unusedVariables false
set_option linter.unusedSimpArgs false
set_option linter.unusedSectionVars false

section
namespace Go.Proofs.YtocjfcgailkfjaaGreatDoor
open Go.RowKit

attribute [local go_sem ↓] Go.wp_at_zero Go.wp_at_succ

theorem StrRow.ext {S : Nat → Prop} {w w' : World} {a : Option Addr} {n : Nat} {l : List (List UInt8)} (h : StrRow w a n l) (e : Ext S w w') (hs : ∀ k, k < w.heap.size → ¬ S k) : StrRow w' a n l := by
  obtain ⟨h1, h2⟩ := h
  refine ⟨h1, h2.imp (fun x => x) (fun ⟨g, o, e1, e2, e3⟩ => ⟨g, o, e1, Nat.lt_of_lt_of_le e2 e.size, fun j s hj => ?_⟩)⟩
  rw [e.cell (p := ⟨g, o + j, none⟩) e2 (hs g e2)]; exact e3 j s hj

theorem Ext.str {w w' : World} {a : Option Addr} {n : Nat} {l : List (List UInt8)} (e : Ext none_ w w') (h : StrRow w a n l) : StrRow w' a n l := h.ext e (fun _ _ h => h)

theorem Ext.row {w w' : World} {S : Nat → Prop} {sl : Value} {vs : List Value} (e : Ext none_ w w') (h : BerRow w S sl vs) : BerRow w' S sl vs := h.frame fun x hx hx2 => ⟨e.block x hx2 (fun h => h), hx⟩

/-- berSequence, and the append of what it gives onto a row. -/
theorem berSequence_app (w w0 : World) (S : Nat → Prop) (sl : Value) (vs : List Value) (E : Ext none_ w0 w) (hrow : BerRow w0 S sl vs) (hlen : vs.length ≤ 100000) (sa : Option Addr) (sn sc : Nat) :
    Calls Tryz.prog 38 #[.slice sa sn sc] w fun e w' => e = .returned (.agg #[.int .u8 0, .bool true, .int .u64 16, .string ⟨#[]⟩, .slice sa sn sc]) ∧ Ext none_ w w' ∧
      ∃ za zn zc wE, (Builtin.append_ #[29, 29] 29 #[sl, .slice (some ⟨w'.heap.size, 0, none⟩) 1 1]).run Tryz.prog (w'.alloc (.cells #[.int .u8 0, .bool true, .int .u64 16, .string ⟨#[]⟩, .slice sa sn sc] 43)) = .ok (.slice za zn zc) wE ∧
        BerRow wE (fun x => sl.ownBlock = some x ∨ (w'.heap.size + 1) ≤ x) (.slice za zn zc) (vs ++ [.agg #[.int .u8 0, .bool true, .int .u64 16, .string ⟨#[]⟩, .slice sa sn sc]]) ∧ Ext (fun x => sl.ownBlock = some x) (w'.alloc (.cells #[.int .u8 0, .bool true, .int .u64 16, .string ⟨#[]⟩, .slice sa sn sc] 43)) wE := by
  refine (berSequence_any w sa sn sc).mono ?_
  rintro e w' ⟨rfl, ED⟩
  have EE := (Ext.refl none_ w').alloc (.cells #[.int .u8 0, .bool true, .int .u64 16, .string ⟨#[]⟩, .slice sa sn sc] 43)
  obtain ⟨za, zn, zc, wE, h1, h2, h3⟩ := append_ber _ S sl vs w'.heap.size _ _ _ _ _ (Ext.row EE (Ext.row ED (Ext.row E hrow))) (heap_new w' _) (by simp [Value.oneCell']) hlen
  rw [World.size_alloc] at h2
  exact ⟨rfl, ED, za, zn, zc, wE, h1, h2, h3⟩

/-- A row of attributes. -/
def AttrRow (w : World) (a : Option Addr) (n : Nat) (l : List (List UInt8 × List (List UInt8))) : Prop :=
  l.length = n ∧ (l = [] ∨ ∃ g o, a = some ⟨g, o, none⟩ ∧ g < w.heap.size ∧ ∀ (j : Nat) x, l[j]? = some x → ∃ va vn vc, w.cell? ⟨g, o + j * 2, none⟩ = some (.string (strOf x.1)) ∧ w.cell? ⟨g, o + j * 2 + 1, none⟩ = some (.slice va vn vc) ∧ StrRow w va vn x.2)

theorem AttrRow.ext {S : Nat → Prop} {w w' : World} {a : Option Addr} {n : Nat} {l : List (List UInt8 × List (List UInt8))} (h : AttrRow w a n l) (e : Ext S w w') (hs : ∀ k, k < w.heap.size → ¬ S k) : AttrRow w' a n l := by
  obtain ⟨h1, h2⟩ := h
  refine ⟨h1, h2.imp (fun x => x) (fun ⟨g, o, e1, e2, e3⟩ => ⟨g, o, e1, Nat.lt_of_lt_of_le e2 e.size, fun j s hj => ?_⟩)⟩
  obtain ⟨va, vn, vc, k1, k2, k3⟩ := e3 j s hj
  refine ⟨va, vn, vc, ?_, ?_, k3.ext e hs⟩
  · rw [e.cell (p := ⟨g, _, none⟩) e2 (hs g e2)]; exact k1
  · rw [e.cell (p := ⟨g, _, none⟩) e2 (hs g e2)]; exact k2
theorem Ext.attr {w w' : World} {a : Option Addr} {n : Nat} {l : List (List UInt8 × List (List UInt8))} (e : Ext none_ w w') (h : AttrRow w a n l) : AttrRow w' a n l := h.ext e (fun _ _ h => h)

/-- An attribute's tree, an entry's. -/
def attrT (x : List UInt8 × List (List UInt8)) : T := .cons 0 16 [.prim 0 4 x.1, .cons 0 17 (x.2.map (T.prim 0 4))]
def entryT (name : List UInt8) (l : List (List UInt8 × List (List UInt8))) : T := .cons 1 4 [.prim 0 4 name, .cons 0 16 (l.map attrT)]

/-- The loop's state. -/
def EntSt (w W : World) (name : List UInt8) (a : Option Addr) (n c : Nat) (l : List (List UInt8 × List (List UInt8))) (j : Nat) (sl : Value) : Prop :=
  ∃ vs, BerRow W (fun x => w.heap.size + 1 < x) sl vs ∧ BerVL W (fun x => w.heap.size + 1 < x ∧ x < W.heap.size ∧ sl.ownBlock ≠ some x) ((l.take j).map attrT) vs ∧ Ext none_ w W ∧
    W.heap[w.heap.size]? = some (.cells #[.string (strOf name), .slice a n c] 24 (0, 0)) ∧ W.heap[w.heap.size + 1]? = some (.cells #[.int .u8 0, .bool false, .int .u64 0, .string ⟨#[]⟩, .slice none 0 0] 43 (0, 0))

theorem ent_step {w wr wB Wp wD wE : World} {name : List UInt8} {a : Option Addr} {n c : Nat} {l : List (List UInt8 × List (List UInt8))} {j : Nat} {sl sl' : Value} {x : List UInt8 × List (List UInt8)} {ta : Option Addr} {tn tc : Nat} {vs : List Value} {SB : Nat → Prop} {cell10 : Obj}
    (hx : l[j]? = some x) (hrow : BerRow wr (fun b => w.heap.size + 1 < b) sl vs) (hvl : BerVL wr (fun b => w.heap.size + 1 < b ∧ b < wr.heap.size ∧ sl.ownBlock ≠ some b) ((l.take j).map attrT) vs) (hE : Ext none_ w wr)
    (hb0 : wr.heap[w.heap.size]? = some (.cells #[.string (strOf name), .slice a n c] 24 (0, 0))) (hb1 : wr.heap[w.heap.size + 1]? = some (.cells #[.int .u8 0, .bool false, .int .u64 0, .string ⟨#[]⟩, .slice none 0 0] 43 (0, 0)))
    (E1 : Ext none_ wr wB) (hSB : ∀ b, SB b → wr.heap.size ≤ b) (hrowB : BerRow wB SB (.slice ta tn tc) (x.2.map octV)) (E2 : Ext none_ wB Wp)
    (h10 : cell10 = .cells #[.int .u8 0, .bool false, .int .u64 4, .string (strOf x.1), .slice none 0 0, .int .u8 0, .bool true, .int .u64 17, .string ⟨#[]⟩, .slice ta tn tc] 43 (0, 0)) (E3 : Ext none_ (Wp.alloc cell10) wD) (o : Obj)
    (hrowE : BerRow wE (fun b => sl.ownBlock = some b ∨ wD.heap.size + 1 ≤ b) sl' (vs ++ [.agg #[.int .u8 0, .bool true, .int .u64 16, .string ⟨#[]⟩, .slice (some ⟨Wp.heap.size, 0, none⟩) 2 2]])) (E4 : Ext (fun b => sl.ownBlock = some b) (wD.alloc o) wE) :
    EntSt w wE name a n c l (j + 1) sl' := by
  have s0 := hE.size
  have hb1l := lt_of_block hb1
  have s1 := E1.size
  have s2 := E2.size
  have s3 := E3.size
  have s4 := E4.size
  rw [World.size_alloc] at s3 s4
  have hown : ∀ b, sl.ownBlock = some b → w.heap.size + 1 < b ∧ b < wr.heap.size := fun b hb => by
    rcases hrow with ⟨rfl, _⟩ | ⟨g', cap, cur, rfl, hS, hg, _⟩
    · simp [Value.ownBlock] at hb
    · simp [Value.ownBlock] at hb; subst hb; exact ⟨hS, lt_of_block hg⟩
  have hownE : ∀ b, sl'.ownBlock = some b → sl.ownBlock = some b ∨ wD.heap.size + 1 ≤ b := fun b hb => by
    rcases hrowE with ⟨rfl, _⟩ | ⟨g', cap, cur, rfl, hS, hg, _⟩
    · simp [Value.ownBlock] at hb
    · simp [Value.ownBlock] at hb; subst hb; exact hS
  have Ep := (Ext.refl none_ Wp).alloc cell10
  have Ed := (Ext.refl none_ wD).alloc o
  have ErD : Ext none_ wr (wD.alloc o) := (((E1.trans E2).trans Ep).trans E3).trans Ed
  have keep : ∀ b, b < wD.heap.size + 1 → sl.ownBlock ≠ some b → wE.heap[b]? = (wD.alloc o).heap[b]? := fun b hb hn => E4.block b (by rw [World.size_alloc]; exact hb) hn
  refine ⟨_, hrowE.frame (fun b hb _ => ⟨rfl, ?_⟩), ?_, (hE.trans ErD).trans' E4 (fun b hb h => by have := (hown b h).1; omega), ?_, ?_⟩
  · rcases hb with h | h
    · exact (hown b h).1
    · omega
  · rw [List.take_add_one, hx, List.map_append]
    refine BerVL.snoc ?_ _ _ (BerVL.frame (fun b hb hb2 => ?_) _ _ hvl)
    · unfold attrT BerV
      have hg10 : (Wp.alloc cell10).heap[Wp.heap.size]? = some cell10 := heap_new Wp _
      have hne : ∀ b, wr.heap.size ≤ b → sl.ownBlock ≠ some b := fun b hb e => by have := (hown b e).2; omega
      have hne' : ∀ b, wr.heap.size ≤ b → b < wD.heap.size + 1 → sl'.ownBlock ≠ some b := fun b hb hb2 e => by
        rcases hownE b e with h | h
        · exact hne b hb h
        · omega
      have h10E : wE.heap[Wp.heap.size]? = some cell10 := by
        rw [keep _ (by omega) (hne _ (by omega))]
        exact Ed.get (E3.get hg10 (fun h => h)) (fun h => h)
      rw [h10] at h10E
      refine ⟨_, _, rfl, row_two wE _ Wp.heap.size _ _ _ _ _ _ _ _ _ _ ⟨by omega, by omega, hne' _ (by omega) (by omega)⟩ h10E, ?_⟩
      simp only [BerVL, and_true]
      refine ⟨by unfold BerV; rfl, ?_⟩
      unfold BerV
      refine ⟨_, x.2.map octV, rfl, hrowB.frame (fun b hb hb2 => ⟨?_, ?_⟩), octV_ber _ _ _⟩
      · rw [keep b (by omega) (hne b (hSB b hb))]
        exact (((E2.trans Ep).trans E3).trans Ed).block b hb2 (fun h => h)
      · have := hSB b hb
        exact ⟨by omega, by omega, hne' b this (by omega)⟩
    · refine ⟨(keep b (by omega) hb.2.2).trans (ErD.block b hb2 (fun h => h)), hb.1, by omega, fun e => ?_⟩
      rcases hownE b e with h | h
      · exact hb.2.2 h
      · omega
  · rw [keep _ (by omega) (fun e => by have := (hown _ e).1; omega)]
    exact ErD.get hb0 (fun h => h)
  · rw [keep _ (by omega) (fun e => by have := (hown _ e).1; omega)]
    exact ErD.get hb1 (fun h => h)

set_option maxHeartbeats 1000000 in
set_option maxRecDepth 100000 in
theorem entryOf_any (w : World) (name : List UInt8) (a : Option Addr) (n c : Nat) (l : List (List UInt8 × List (List UInt8))) (h : AttrRow w a n l) (hn : n ≤ 1000) (hv : ∀ x ∈ l, x.2.length ≤ 1000) :
    Calls Tryz.prog 15 #[.agg #[.string (strOf name), .slice a n c]] w fun e w' => ∃ v, e = .returned v ∧ BerV w' (fun x => w.heap.size ≤ x) (entryT name l) v ∧ Ext none_ w w' := by
  obtain ⟨hln, hl⟩ := h
  have HN := Lib.hid hln
  clear hln
  go_enter Tryz.func15, Tryz.ntmps15
  go_wp2_with fail
  have h2 := two_new w (.cells #[.string (strOf name), .slice a n c] 24 (0, 0)) (.cells #[.int .u8 0, .bool false, .int .u64 0, .string ⟨#[]⟩, .slice none 0 0] 43 (0, 0))
  have HS0 : EntSt w ((w.alloc (.cells #[.string (strOf name), .slice a n c] 24)).alloc (.cells #[.int .u8 0, .bool false, .int .u64 0, .string ⟨#[]⟩, .slice none 0 0] 43)) name a n c l 0 (.slice none 0 0) :=
    ⟨[], .inl ⟨rfl, rfl⟩, by simp [BerVL], h2.2.2, h2.1, h2.2.1⟩
  clear h2
  go_loopw [3, 5, 9] (fun v3 _ v9 W => ∃ j sa sn sc, j ≤ n ∧ v9 = .int .i64 (j : Nat) ∧ v3 = .slice sa sn sc ∧ Hid (EntSt w W name a n c l j (.slice sa sn sc))) (fun _ _ v9 _ => n - (intOf v9).toNat)
  case atStart => exact ⟨0, none, 0, 0, by omega, rfl, rfl, Lib.hid HS0⟩
  case round =>
    obtain ⟨j, sa, sn, sc, hj, rfl, rfl, H⟩ := hrel
    clear HS0
    by_cases hlt : j < n
    · have hji : (j : Int) < (n : Int) := by omega
      obtain ⟨x, hx⟩ : ∃ x, l[j]? = some x := ⟨l[j]'(by have := HN.out; omega), List.getElem?_eq_getElem _⟩
      obtain ⟨g, o, rfl, hgl, hcells⟩ := hl.resolve_left (fun e => by rw [e] at hx; simp at hx)
      obtain ⟨va, vn, vc, k1, k2, k3⟩ := hcells j x hx
      obtain ⟨vs, hrow, hvl, hE, hb0, hb1⟩ := H.out
      have r1 : wr.cell? ⟨g, o + j * 2, none⟩ = some (.string (strOf x.1)) := by rw [hE.cell (p := ⟨g, _, none⟩) hgl (fun h => h)]; exact k1
      have r2 : wr.cell? ⟨g, o + j * 2 + 1, none⟩ = some (.slice va vn vc) := by rw [hE.cell (p := ⟨g, _, none⟩) hgl (fun h => h)]; exact k2
      have k3' := Lib.hid (k3.ext hE (fun _ _ h => h))
      have HX := Lib.hid hx
      have HR := Lib.hid hrow
      have HVL := Lib.hid hvl
      clear hx hrow hvl k1 k2 k3 hcells
      go_upto_region 5 with fail
      have E1 := (Ext.refl none_ wr).alloc (.cells #[.string (strOf x.1), .slice va vn vc] 48)
      have hbox : (wr.alloc (.cells #[.string (strOf x.1), .slice va vn vc] 48)).heap[wr.heap.size]? = _ := heap_new wr _
      have hstr := k3'.out.ext E1 (fun _ _ h => h)
      have EW := E1
      have cbox := Lib.cell_of_heap hbox
      have hvn : vn ≤ 1000 := by
        have := hv x (List.mem_of_getElem? HX.out)
        rw [k3'.out.1] at this; exact this
      have hs1 : (wr.alloc (.cells #[.string (strOf x.1), .slice va vn vc] 48)).heap.size = wr.heap.size + 1 := by simp
      have hrow0 := Ext.row E1 HR.out
      have hrow := Lib.hid hrow0
      have hlen : vs.length ≤ 100000 := by
        have := BerVL.length _ _ HVL.out
        rw [this, List.length_map, List.length_take]; omega
      clear hrow0
      go_region_law (first
          | (refine Lib.wp_append_run _ _ _ _ _ rfl _ _ rfl rfl _ _ hrun ?_)
          | (go_simp; go_at_call 39; refine (berOctets_any _ _).mono ?_; rintro e wA ⟨rfl, EA⟩; have hbox := EA.get hbox (fun h => h); have cbox := Lib.cell_of_heap hbox; have hstr := Ext.str EA hstr; have hrow := Lib.hid (Ext.row EA hrow.out))
          | (go_simp; go_at_call 41; refine (berTexts_any _ va vn vc x.2 (by assumption) hvn).mono ?_; rintro e wB ⟨ta, tn, tc, rfl, hrowB, EB⟩; have hbox := EB.get hbox (fun h => h); have cbox := Lib.cell_of_heap hbox; have hrow := Lib.hid (Ext.row EB hrow.out))
          | (go_simp; go_at_call 40; refine (berSet_any _ _ _ _).mono ?_; rintro e wC ⟨rfl, EC⟩; have hbox := EC.get hbox (fun h => h); have cbox := Lib.cell_of_heap hbox; have hrow := Lib.hid (Ext.row EC hrow.out))
          | (go_simp; go_at_call 38; refine (berSequence_app _ _ _ _ _ (Ext.alloc (Ext.refl none_ _) _) hrow.out hlen _ _ _).mono ?_; rintro e wD ⟨rfl, ED, za, zn, zc, wE, hrun, hrowE, EE⟩))
      all_goals go_wp2_with fail
      all_goals
        go_roundw
        case rel =>
          refine ⟨j + 1, za, zn, zc, by omega, by go_num, rfl, Lib.hid ?_⟩
          first
            | exact ent_step HX.out HR.out HVL.out hE hb0 hb1 ((E1.drew.trans EA).trans EB) (fun b hb => by have h1 := (E1.drew.trans EA).size; exact Nat.le_trans h1 hb) hrowB EC rfl ED _ hrowE EE
            | exact ent_step HX.out HR.out HVL.out hE hb0 hb1 (E1.drew.trans EB) (fun b hb => by have h1 := E1.drew.size; exact Nat.le_trans h1 hb) hrowB (EA.trans EC) rfl ED _ hrowE EE
            | exact ent_step HX.out HR.out HVL.out hE hb0 hb1 (E1.drew.trans EB) (fun b hb => by have h1 := E1.drew.size; exact Nat.le_trans h1 hb) hrowB (EC.trans EA) rfl ED _ hrowE EE
        case measure => simp [intOf]; omega
    · have hji : ¬ (j : Int) < (n : Int) := by omega
      obtain rfl : j = n := by omega
      obtain ⟨vs, hrow, hvl, hE, hb0, hb1⟩ := H.out
      rw [List.take_of_length_le (by have := HN.out; omega)] at hvl
      have c0 := Lib.cell_of_heap hb0
      have HR := Lib.hid hrow
      have HVL := Lib.hid hvl
      clear hrow hvl
      go_wp2_with fail
      refine (berOctets_any wr (strOf name)).mono ?_
      rintro e wA ⟨rfl, EA⟩
      clear c0
      go_wp2_with fail
      refine (berSequence_any wA sa sn sc).mono ?_
      rintro e wB ⟨rfl, EB⟩
      go_wp2_with fail
      refine (berApplication_any _ 4 _ 2 2).mono ?_
      rintro e wC ⟨rfl, EC⟩
      have ET := (Ext.refl none_ wB).alloc (.cells #[.int .u8 0, .bool false, .int .u64 4, .string (strOf name), .slice none 0 0, .int .u8 0, .bool true, .int .u64 16, .string ⟨#[]⟩, .slice sa sn sc] 43)
      have Eall := (EA.trans EB).trans (ET.trans EC)
      have hb1C := Eall.get hb1 (fun h => h)
      have c1 := Lib.cell_of_heap hb1C
      have f1 := Lib.frozen_of_heap hb1C
      have hb2 : wC.heap[wB.heap.size]? = _ := EC.get (heap_new wB (.cells #[.int .u8 0, .bool false, .int .u64 4, .string (strOf name), .slice none 0 0, .int .u8 0, .bool true, .int .u64 16, .string ⟨#[]⟩, .slice sa sn sc] 43)) (fun h => h)
      have HB2 := Lib.hid hb2
      have HB1 := Lib.hid hb1C
      have s1 := hE.size
      have s2 := lt_of_block hb1
      have s3 := EA.size
      have s4 := EB.size
      clear hb1 hb0 hb2 hb1C ET EC
      go_wp2_with fail
      have K := heap_set (heap_set (heap_set (heap_set (heap_set HB1.out (i := 0) (.int .u8 1)) (i := 1) (.bool true)) (i := 2) (.int .u64 4)) (i := 3) (.string ⟨#[]⟩)) (i := 4) (.slice (some ⟨wB.heap.size, 0, none⟩) 2 2)
      have ck := Lib.cell_of_heap K
      refine bodyPost_ret (v := .agg #[.int .u8 1, .bool true, .int .u64 4, .string ⟨#[]⟩, .slice (some ⟨wB.heap.size, 0, none⟩) 2 2]) (by simp [results, Tryz.results15, go_sem, ck]) rfl ⟨_, rfl, ?_, ?_⟩
      · have keep : ∀ b, b ≠ w.heap.size + 1 → (((((wC.setCell ⟨w.heap.size + 1, 0, none⟩ (.int .u8 1)).setCell ⟨w.heap.size + 1, 1, none⟩ (.bool true)).setCell ⟨w.heap.size + 1, 2, none⟩ (.int .u64 4)).setCell ⟨w.heap.size + 1, 3, none⟩ (.string ⟨#[]⟩)).setCell ⟨w.heap.size + 1, 4, none⟩ (.slice (some ⟨wB.heap.size, 0, none⟩) 2 2)).heap[b]? = wC.heap[b]? := fun b hb => by
          rw [Below.heap_setCell _ _ _ _ hb, Below.heap_setCell _ _ _ _ hb, Below.heap_setCell _ _ _ _ hb, Below.heap_setCell _ _ _ _ hb, Below.heap_setCell _ _ _ _ hb]
        unfold entryT BerV
        refine ⟨_, _, rfl, row_two _ _ wB.heap.size _ _ _ _ _ _ _ _ _ _ (by omega) (by rw [keep _ (by omega)]; exact HB2.out), ?_⟩
        simp only [BerVL, and_true]
        refine ⟨by unfold BerV; rfl, ?_⟩
        unfold BerV
        have hrow0 : BerRow wC (fun x => w.heap.size + 1 < x) (.slice sa sn sc) vs := Ext.row Eall HR.out
        refine ⟨_, vs, rfl, hrow0.frame (fun b hb _ => ⟨keep b (by omega), by omega⟩), BerVL.frame (fun b hb hb2 => ⟨?_, by omega⟩) _ _ HVL.out⟩
        rw [keep b (by omega)]
        exact Eall.block b hb2 (fun h => h)
      · repeat refine Ext.setAt ?_ (.inl (by omega)) _
        exact hE.trans Eall

end Go.Proofs.YtocjfcgailkfjaaGreatDoor
end
