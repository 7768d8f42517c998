/- EntryRead: plain parts. EntryRead: the walk. -/
import Derived.Test.YtocjfcgailkfjaaGreatDoorMJ5
import Derived.Deep.RegionLaw

set_option linter.unusedVariables false
set_option linter.unusedSimpArgs false
set_option linter.unusedSectionVars false

section
namespace Go.Proofs.YtocjfcgailkfjaaGreatDoor
open Go.RowKit

def strV (l : List (List UInt8)) : List (List Value) := l.map fun s => [.string (strOf s)]
theorem Row.strs {w : World} {S : Nat → Prop} {a : Option Addr} {n c : Nat} {l : List (List UInt8)} (h : Row 9 1 w S (.slice a n c) (strV l)) : StrRow w a n l := by
  obtain ⟨h1, -, -, h2⟩ := h.at
  refine ⟨by rw [← h1]; simp [strV], ?_⟩
  rcases h2 with h2 | ⟨g, e, hg, -, hc⟩
  · exact .inl (by simpa [strV] using h2)
  · exact .inr ⟨g, 0, e, hg, fun j s hj => by
      have := hc j 0 [.string (strOf s)] _ (by simp [strV, hj]) rfl
      rwa [Nat.mul_one, Nat.add_zero, ← Nat.zero_add j] at this⟩
theorem strV_flat : ∀ (l : List (List UInt8)), (strV l).flatten = l.map fun s => Value.string (strOf s)
  | [] => rfl
  | s :: l => by
    have := strV_flat l
    simp only [strV, List.map_cons, List.flatten_cons] at this ⊢
    rw [this]; rfl
theorem info9 : (Tryz.prog.info? 9).map (fun i => (i.zero, i.size, i.bytes)) = some (some (.string ⟨#[]⟩), 1, 16) := by kernel_rfl
/-- append([]string(nil), l...). -/
theorem append_copy (W : World) (bV c : Nat) (l : List (List UInt8)) (m : Nat) (hl : l.length = m) (hm : m ≤ 1000) (h : W.heap[bV]? = some (.cells (strCells l) 9 (0, 0))) :
    ∃ sa sn sc W', (Builtin.append_ #[46, 46] 46 #[.slice none 0 0, .slice (some ⟨bV, 0, none⟩) m c]).run Tryz.prog W = .ok (.slice sa sn sc) W' ∧ Row 9 1 W' (fun b => W.heap.size ≤ b) (.slice sa sn sc) (strV l) ∧ Ext none_ W W' := by
  obtain ⟨i, hi, hz, hs, hb⟩ := info_parts info9
  by_cases h0 : m = 0
  · subst h0
    have hl0 := List.eq_nil_of_length_eq_zero hl
    subst hl0
    refine ⟨none, 0, 0, W, ?_, .inl ⟨rfl, rfl⟩, Ext.refl _ _⟩
    have hf := run_firstCells_some (P := Tryz.prog) W i.size 0 ⟨bV, 0, none⟩ 0 c [] (by simp) (by simp)
    simp [Builtin.append_, run_underlying Tryz.underlying46, sizeOf, typeInfo, zeroValue, hi, hz, Builtin.lenOf, hf]
  · have hr := run_append_nil (P := Tryz.prog) W 46 46 9 i _ Tryz.underlying46 hi hz ⟨bV, 0, none⟩ m c (l.map fun s => Value.string (strOf s)) (by rw [hs]; simp [hl]) (fun j v hj => by
      rw [Lib.addr_add, Lib.cell_of_heap h, Nat.zero_add]
      simpa [strCells] using hj) (by omega) (by omega) (by rw [hb]; omega)
    have hge := grownCap_ge W m 0 9
    refine ⟨_, _, _, _, hr, .inr ⟨W.heap.size, _, _, by rw [show (strV l).length = m by simp [strV, hl]], Nat.le_refl _, heap_new W.drew _, by rw [show (strV l).length = m by simp [strV, hl]]; exact hge, grownCap_le_maxLen W _ _ _ (by unfold maxLen; omega), ?_, fun v hv => ?_, ?_⟩, ((Ext.refl _ W).drew).alloc _⟩
    · rw [Array.size_append, size_zeroCells, List.size_toArray, List.length_map, hl]
      show m + _ * 1 = _
      omega
    · simp only [strV, List.mem_map] at hv
      obtain ⟨s, _, rfl⟩ := hv
      rfl
    · rw [strV_flat, Array.toList_append, show (strV l).length * 1 = (l.map fun s => Value.string (strOf s)).length by simp [strV]]
      exact List.take_left' rfl

/-- An entry's attributes as they are handed out. -/
def AttrVals (w : World) (B : Nat) (l : List AT) (vs : List (List Value)) : Prop :=
  vs.length = l.length ∧ ∀ (i : Nat) x, l[i]? = some x → ∃ a n c, vs[i]? = some [.string (strOf x.1), .slice a n c] ∧ Row 9 1 w (fun b => B ≤ b) (.slice a n c) (strV x.2)
theorem AttrVals.keep {w w' : World} {B : Nat} {l : List AT} {vs : List (List Value)} (h : AttrVals w B l vs) (hk : ∀ (b : Nat) (cs : Array Value) (f : Nat × Nat), w.heap[b]? = some (Obj.cells cs 9 f) → w'.heap[b]? = some (Obj.cells cs 9 f)) : AttrVals w' B l vs :=
  ⟨h.1, fun i x hi => by obtain ⟨a, n, c, h1, h2⟩ := h.2 i x hi; exact ⟨a, n, c, h1, h2.keep hk⟩⟩
theorem AttrVals.row {w : World} {B : Nat} {S : Nat → Prop} {l : List AT} {vs : List (List Value)} {a : Option Addr} {n c : Nat} (h : AttrVals w B l vs) (hr : Row 49 2 w S (.slice a n c) vs) : AttrRow w a n l := by
  obtain ⟨h1, -, -, h2⟩ := hr.at
  refine ⟨by rw [← h1, h.1], ?_⟩
  rcases h2 with h2 | ⟨g, e, hg, -, hc⟩
  · left
    have := h.1
    rw [h2] at this
    exact List.eq_nil_of_length_eq_zero this.symm
  · refine .inr ⟨g, 0, e, hg, fun j x hj => ?_⟩
    obtain ⟨va, vn, vc, k1, k2⟩ := h.2 j x hj
    refine ⟨va, vn, vc, ?_, ?_, k2.strs⟩
    · have := hc j 0 _ _ k1 rfl
      rwa [Nat.add_zero, ← Nat.zero_add (j * 2)] at this
    · have := hc j 1 _ _ k1 rfl
      rwa [← Nat.zero_add (j * 2)] at this
theorem info49 : (Tryz.prog.info? 49).map (fun i => (i.zero, i.size, i.bytes)) = some (some (.agg #[.string ⟨#[]⟩, .slice none 0 0]), 2, 40) := by kernel_rfl
theorem append_att (W : World) (S : Nat → Prop) (sl : Value) (vs : List (List Value)) (sg : Nat) (v : List Value) (hv : v.length = 2) (h : Row 49 2 W S sl vs) (hs : W.heap[sg]? = some (.cells v.toArray 49 (0, 0))) (h1 : ∀ u ∈ v, u.oneCell' = true) (hl : vs.length ≤ 100000) :
    ∃ sa sn sc W', (Builtin.append_ #[35, 35] 35 #[sl, .slice (some ⟨sg, 0, none⟩) 1 1]).run Tryz.prog W = .ok (.slice sa sn sc) W' ∧ Row 49 2 W' (fun x => sl.ownBlock = some x ∨ W.heap.size ≤ x) (.slice sa sn sc) (vs ++ [v]) ∧ Ext (fun x => sl.ownBlock = some x) W W' :=
  append_row 49 35 2 40 _ Tryz.underlying35 info49 rfl (by omega) (by omega) W S sl vs sg v hv h hs h1 hl

/-- The loop's state. -/
def RdSt (wL W : World) (X : Nat) (name : List UInt8) (l : List AT) (j : Nat) (sl : Value) : Prop :=
  ∃ vs, Row 49 2 W (fun b => wL.heap.size ≤ b) sl vs ∧ AttrVals W wL.heap.size (l.take j) vs ∧ W.heap[X]? = some (.cells #[.string (strOf name), sl] 37 (0, 0)) ∧ Ext (fun b => b = X) wL W
theorem rd_step {wL wr W1 W3 : World} {X : Nat} {name : List UInt8} {l : List AT} {j : Nat} {sl sl' : Value} {x : AT} {vs : List (List Value)} {a : Option Addr} {n c : Nat} {o : Obj} (hx : l[j]? = some x) (hX : X < wL.heap.size)
    (hrow : Row 49 2 wr (fun b => wL.heap.size ≤ b) sl vs) (hat : AttrVals wr wL.heap.size (l.take j) vs) (hXb : wr.heap[X]? = some (.cells #[.string (strOf name), sl] 37 (0, 0))) (E : Ext (fun b => b = X) wL wr)
    (hcp : Row 9 1 W1 (fun b => wr.heap.size ≤ b) (.slice a n c) (strV x.2)) (E1 : Ext none_ wr W1)
    (hrow3 : Row 49 2 W3 (fun b => sl.ownBlock = some b ∨ W1.heap.size + 1 ≤ b) sl' (vs ++ [[.string (strOf x.1), .slice a n c]])) (E3 : Ext (fun b => sl.ownBlock = some b) (W1.alloc o) W3) :
    W3.heap[X]? = some (.cells #[.string (strOf name), sl] 37 (0, 0)) ∧ RdSt wL (W3.setCell ⟨X, 1, none⟩ sl') X name l (j + 1) sl' := by
  have hown := hrow.own
  have s0 := E.size
  have s1 := E1.size
  have Ea := (Ext.refl none_ W1).alloc o
  have E1a := E1.trans Ea
  have hXb3 : W3.heap[X]? = some (.cells #[.string (strOf name), sl] 37 (0, 0)) := E3.get (E1a.get hXb (fun h => h)) (fun e => by have := (hown X e).1; omega)
  have k9 : ∀ (b : Nat) (cs : Array Value) (f : Nat × Nat), (W1.alloc o).heap[b]? = some (Obj.cells cs 9 f) → (W3.setCell ⟨X, 1, none⟩ sl').heap[b]? = some (Obj.cells cs 9 f) := fun b cs f hb => by
    rw [Below.heap_setCell _ _ _ _ (fun e => by
      subst e
      rw [E1a.get hXb (fun h => h)] at hb
      cases hb)]
    exact E3.get hb (fun e => by
      obtain ⟨cur, h⟩ := hrow.ownT e
      rw [E1a.get h (fun h => h)] at hb
      cases hb)
  refine ⟨hXb3, _, hrow3.frame (fun b hb hb2 => ⟨Below.heap_setCell _ _ _ _ (fun e => ?_), ?_⟩), ?_, heap_set hXb3 _, ?_⟩
  · subst e
    rcases hb with hb | hb
    · have := (hown _ hb).1; omega
    · omega
  · rcases hb with hb | hb
    · exact (hown b hb).1
    · omega
  · have k1 := (hat.keep fun b cs f hb => E1a.get hb (fun h => h)).keep k9
    have k2 := (hcp.ext Ea).keep k9
    rw [List.take_add_one, hx]
    refine ⟨by simp [k1.1], fun i y hi => ?_⟩
    by_cases hil : i < (l.take j).length
    · rw [List.getElem?_append_left hil] at hi
      obtain ⟨a', n', c', a1, a2⟩ := k1.2 i y hi
      exact ⟨a', n', c', by rw [List.getElem?_append_left (by rw [k1.1]; exact hil)]; exact a1, a2⟩
    · rw [List.getElem?_append_right (by omega)] at hi
      have hi0 : i = (l.take j).length := by
        have := (List.getElem?_eq_some_iff.1 hi).1
        simp only [Option.toList_some, List.length_singleton] at this; omega
      subst hi0
      rw [Nat.sub_self] at hi
      simp at hi
      subst hi
      refine ⟨a, n, c, ?_, k2.frame fun b hb _ => ⟨rfl, by omega⟩⟩
      rw [List.getElem?_append_right (by rw [k1.1]; exact Nat.le_refl _), k1.1, Nat.sub_self]; rfl
  · exact Ext.setCell ((E.trans (Ext.zero E1a)).trans' E3 fun b hb h => by have := (hown b h).1; omega) (fun _ => rfl) _

end Go.Proofs.YtocjfcgailkfjaaGreatDoor
end

section
namespace Go.Proofs.YtocjfcgailkfjaaGreatDoor
open Go.RowKit

set_option maxHeartbeats 400000 in
set_option maxRecDepth 100000 in
theorem decodeEntry35 (w : World) (p : Nat) (S : Nat → Prop) (name : List UInt8) (l : List AT) (cs : List (UC × Bool)) (h : Calls Tryz.prog 64 #[.pointer (some ⟨p, 0, none⟩)] w (DecE w S name l cs)) :
    Calls Tryz.prog 35 #[.pointer (some ⟨p, 0, none⟩)] w (DecE w S name l cs) := by
  have H := Lib.hid h
  clear h
  go_enter Tryz.func35, Tryz.ntmps35
  go_wp2_with fail
  refine H.out.mono ?_
  rintro e w1 ⟨R, B, sa, sn, sc, ta, tn, tc, vs, us, rfl, hrest⟩
  have HR := Lib.hid hrest
  clear hrest
  go_wp2_with fail
  exact bodyPost_ret (v := .tuple #[.pointer (some ⟨R, 0, none⟩), .nilIface]) (by simp [results, Tryz.results35]) rfl ⟨R, B, sa, sn, sc, ta, tn, tc, vs, us, rfl, HR.out⟩

/-- What EntryRead gives. -/
def ERd (w : World) (name : List UInt8) (l : List AT) (cs : List (UC × Bool)) (e : Ending) (w' : World) : Prop :=
  ∃ aa an ac ca cn cc, e = .returned (.tuple #[.agg #[.string (strOf name), .slice aa an ac], .slice ca cn cc, .string ⟨#[]⟩]) ∧ AttrRow w' aa an l ∧ Row 65 12 w' (fun b => w.heap.size ≤ b) (.slice ca cn cc) ((cs.map Prod.fst).map c12) ∧ Ext none_ w w'

set_option maxHeartbeats 1000000 in
set_option maxRecDepth 100000 in
theorem entryRead_any (w : World) (ea : Addr) (bs name : List UInt8) (l : List AT) (cs : List (UC × Bool)) (hk : ∀ x ∈ cs, ∃ rest, x.1.1 = 49 :: 46 :: 50 :: 46 :: 51 :: rest) (hl : l.length ≤ 1000) (hv : ∀ x ∈ l, x.2.length ≤ 1000) (hcl : cs.length ≤ 1000)
    (wire : List UInt8) (n : Nat) (hn : Hid (wire.length = n)) (hn2 : n ≤ 100000) (hd : (msgT bs (entryT name l) (cs.map ctlTree)).deep ≤ 800) (hf : (msgT bs (entryT name l) (cs.map ctlTree)).fine) (hw : Wire (msgT bs (entryT name l) (cs.map ctlTree)) wire) (hE : w.cell? ⟨1, 0, none⟩ = some (.iface 310 (.pointer (some ea)))) :
    Calls Tryz.prog 13 #[.string (strOf wire)] w (ERd w name l cs) := by
  have EX := (Ext.refl none_ w).alloc (.cells #[.string ⟨#[]⟩, .slice none 0 0] 37)
  have h10 : 1 < w.heap.size := by have := World.block_lt_of_cell? w ⟨1, 0, none⟩ hE; simpa using this
  have HC := Lib.hid (read_any (w.alloc (.cells #[.string ⟨#[]⟩, .slice none 0 0] 37)) ea _ wire n hn hn2 hd hf hw (by rw [EX.cell (p := ⟨1, 0, none⟩) h10 (fun h => h)]; exact hE))
  have HK := Lib.hid hk
  have HV := Lib.hid hv
  clear hd hf hw hE hk hv
  go_enter Tryz.func13, Tryz.ntmps13
  go_wp2_with fail
  refine HC.out.mono ?_
  rintro e w1 ⟨p, rfl, hpk, E1⟩
  have hpk1 := PkAt.frame (w' := w1) (S' := fun b => b < w1.heap.size ∧ w.heap.size < b) (fun b hb hb2 => ⟨rfl, hb2, by rw [World.size_alloc] at hb; omega⟩) _ _ hpk
  have HD := Lib.hid (decodeEntry35 w1 p _ name l cs (decodeEntry_any w1 _ (fun b hb => hb.1) p bs name l cs HK.out hl HV.out hcl hpk1))
  have hX0 := E1.get (heap_new w (.cells #[.string ⟨#[]⟩, .slice none 0 0] 37)) (fun h => h)
  have HX0 := Lib.hid hX0
  clear hpk hpk1 HC hX0
  go_wp2_with fail
  refine HD.out.mono ?_
  rintro e w2 ⟨R, B, sa, sn, sc, ta, tn, tc, vs, us, rfl, hR, hB, hrow, hat, hrowC, hif, E2⟩
  have hX1 := E2.get HX0.out (by omega)
  have hRX : ¬ R = w.heap.size := fun e => by rw [e, hX1] at hR; cases hR
  have hBX : ¬ B = w.heap.size := fun e => by rw [e, hX1] at hB; cases hB
  have cR := Lib.cell_of_heap hR
  have cB := Lib.cell_of_heap hB
  have cX := Lib.cell_of_heap hX1
  have fX := Lib.frozen_of_heap hX1
  have hX2 := heap_set hX1 (i := 0) (.string (strOf name))
  have Es := (Ext.refl (fun b => b = w.heap.size) w2).setAt (b := w.heap.size) (i := 0) (.inr rfl) (.string (strOf name))
  have kT : ∀ (b : Nat) (cs0 : Array Value) (T : TypeId) (f : Nat × Nat), w2.heap[b]? = some (Obj.cells cs0 T f) → T ≠ 37 → (w2.setCell ⟨w.heap.size, 0, none⟩ (.string (strOf name))).heap[b]? = some (Obj.cells cs0 T f) := fun b cs0 T f hb hT => Es.get hb (fun e => by
    subst e
    rw [hX1] at hb
    cases hb
    exact hT rfl)
  have E12 : Ext none_ w w2 := ((EX.trans E1)).trans' E2 fun b hb h => by omega
  have hrow2 := hrow.keep fun b cs0 f hb => kT b cs0 103 f hb (by decide)
  have hat2 := hat.keep fun b cs0 T f hb hT => kT b cs0 T f hb (fun e => by rcases hT with h | h <;> (rw [e] at h; exact absurd h (by decide)))
  have hrowC2 := hrowC.keep fun b cs0 f hb => kT b cs0 128 f hb (by decide)
  have hif2 := hif.keep fun b cs0 f hb => (kT b cs0 259 f hb (by decide)).trans hb.symm
  have hR2 := kT _ _ _ _ hR (by decide)
  have HX2 := Lib.hid hX2
  have HROW := Lib.hid hrow2
  have HAT := Lib.hid hat2
  have HROWC := Lib.hid hrowC2
  have HIF := Lib.hid hif2
  have HR2 := Lib.hid hR2
  have EL : Ext none_ w (w2.setCell ⟨w.heap.size, 0, none⟩ (.string (strOf name))) := E12.setAt (.inl (Nat.le_refl _)) _
  have sL : w1.heap.size ≤ (w2.setCell ⟨w.heap.size, 0, none⟩ (.string (strOf name))).heap.size := by have := E2.size; simpa using this
  have s1 : w.heap.size < w1.heap.size := lt_of_block HX0.out
  clear HD hrow hat hrowC hif hR hB hX1 hX2 Es kT hrow2 hat2 hrowC2 hif2 hR2 E1 E2 EX HX0 E12
  go_wp2_with fail
  clear cR cB cX fX hRX hBX
  refine cutW (fun W => W.heap[w.heap.size]? = some (.cells (#[.string ⟨#[]⟩, .slice none 0 0].setIfInBounds 0 (.string (strOf name))) 37 (0, 0)) ∧ Row 103 1 W (fun b => w1.heap.size ≤ b) (.slice sa sn sc) vs ∧ AttrPtrs W l vs ∧ Row 128 1 W (fun b => w1.heap.size ≤ b) (.slice ta tn tc) us ∧ IfRow W (cs.map Prod.fst) us ∧ W.heap[R]? = some (.cells #[.pointer (some ⟨B, 0, none⟩), .string ⟨#[]⟩, .slice ta tn tc, .nilIface] 102 (0, 0)) ∧ Ext none_ w W ∧ w1.heap.size ≤ W.heap.size) ⟨HX2.out, HROW.out, HAT.out, HROWC.out, HIF.out, HR2.out, EL, sL⟩ ?_
  clear HX2 HROW HAT HROWC HIF HR2 EL sL w2
  rintro wL ⟨hX, hrow, hat, hrowC, hif, hR, EL, sL⟩
  obtain ⟨hvl, hnc, hcm, hcells⟩ := hrow.at
  have HVL := Lib.hid hvl
  have HAT := Lib.hid hat
  have HROWC := Lib.hid hrowC
  have HIF := Lib.hid hif
  have HR := Lib.hid hR
  have HST0 : Hid (RdSt wL wL w.heap.size name l 0 (.slice none 0 0)) := Lib.hid ⟨[], .inl ⟨rfl, rfl⟩, ⟨rfl, fun i x hi => by simp at hi⟩, hX, Ext.refl _ _⟩
  have hXl : w.heap.size < wL.heap.size := lt_of_block hX
  unfold maxLen at hcm
  have hsn : sn ≤ 1000 := by have := HAT.out.1; omega
  have HCELLS := Lib.hid hcells
  have HX := Lib.hid hX
  clear hvl hat hrowC hif hrow hR hX hcells
  go_loopw [46] (fun v46 W => ∃ j xa xn xc, j ≤ sn ∧ v46 = .int .i64 (j : Nat) ∧ Hid (RdSt wL W w.heap.size name l j (.slice xa xn xc))) (fun v46 _ => sn - (intOf v46).toNat)
  case atStart => exact ⟨0, none, 0, 0, by omega, rfl, HST0⟩
  case round =>
    obtain ⟨j, xa, xn, xc, hj, rfl, H⟩ := hrel
    clear HST0
    by_cases hlt : j < sn
    · have hji : (j : Int) < (sn : Int) := by omega
      obtain ⟨x, hx⟩ : ∃ x, l[j]? = some x := ⟨l[j]'(by have := HAT.out.1; have := HVL.out; omega), List.getElem?_eq_getElem _⟩
      obtain ⟨vs2, hrow, hatv, hXb, E⟩ := H.out
      obtain ⟨r, bV, bv, hvj, hr, hbV⟩ := HAT.out.2 j x hx
      obtain ⟨g, rfl, hgl, hSg, hcells⟩ := HCELLS.out.resolve_left (fun e => by rw [e] at hvj; simp at hvj)
      have hne : ∀ (b : Nat) (cs0 : Array Value) (T : TypeId), wL.heap[b]? = some (Obj.cells cs0 T (0, 0)) → T ≠ 37 → ¬ b = w.heap.size := fun b cs0 T hb hT e => by
        subst e
        rw [HX.out] at hb
        cases hb
        exact hT rfl
      have hc0 := hcells j 0 _ _ hvj rfl
      rw [Nat.mul_one, Nat.add_zero] at hc0
      have hc1 : wr.cell? ⟨g, j, none⟩ = some (.pointer (some ⟨r, 0, none⟩)) := by rw [E.cell (p := ⟨g, j, none⟩) hgl (fun e => by have e' : g = w.heap.size := e; omega)]; exact hc0
      have hr2 := E.get hr (hne _ _ _ hr (by decide))
      have hbV2 := E.get hbV (hne _ _ _ hbV (by decide))
      have hm : x.2.length ≤ 1000 := HV.out x (List.mem_of_getElem? hx)
      obtain ⟨m, hm'⟩ : ∃ m, x.2.length = m := ⟨_, rfl⟩
      have HM := Lib.hid hm'
      rw [hm'] at hm hr2
      have hlen : vs2.length ≤ 100000 := by rw [hatv.1, List.length_take]; have := HAT.out.1; have := HVL.out; omega
      obtain ⟨ya, yn, yc, W1, hrun1, hcp, E1⟩ := append_copy wr.drew bV m x.2 m HM.out hm hbV2
      have E1' : Ext none_ wr W1 := ((Ext.refl none_ wr).drew).trans E1
      have Ea := (Ext.refl none_ W1).alloc (.cells #[.string (strOf x.1), .slice ya yn yc] 49)
      obtain ⟨za, zn, zc, W3, hrun2, hrowE, EE⟩ := append_att _ _ (.slice xa xn xc) vs2 W1.heap.size [.string (strOf x.1), .slice ya yn yc] rfl ((hrow.ext E1').ext Ea) (heap_new W1 _) (by simp [Value.oneCell']) hlen
      rw [World.size_alloc] at hrowE
      obtain ⟨hX3, HSTn⟩ := rd_step hx hXl hrow hatv hXb E hcp E1' hrowE EE
      have cX := Lib.cell_of_heap hXb
      have cr := Lib.cell_of_heap hr2
      have cX1 := Lib.cell_of_heap (E1'.get hXb (fun h => h))
      have cr1 := Lib.cell_of_heap (E1'.get hr2 (fun h => h))
      have cX1a := Lib.cell_of_heap (Ea.get (E1'.get hXb (fun h => h)) (fun h => h))
      have cX3 := Lib.cell_of_heap hX3
      have fX3 := Lib.frozen_of_heap hX3
      have HSTN := Lib.hid HSTn
      clear hx hrow hatv hXb E hvj hr hbV hcells hne hc0 hr2 hbV2 hm' hcp E1 E1' Ea hrowE EE hX3 HSTn H
      go_wp2_with fail
      go_region_law (first
          | (refine Lib.wp_append_run _ _ _ _ _ rfl _ _ rfl rfl _ _ hrun1 ?_)
          | (refine Lib.wp_append_run _ _ _ _ _ rfl _ _ rfl rfl _ _ hrun2 ?_))
      all_goals go_wp2_with fail
      all_goals
        go_roundw
        case rel => exact ⟨j + 1, za, zn, zc, by omega, by go_num, HSTN⟩
        case measure => simp [intOf]; omega
    · have hji : ¬ (j : Int) < (sn : Int) := by omega
      obtain rfl : j = sn := by omega
      obtain ⟨vs2, hrow, hatv, hXb, E⟩ := H.out
      rw [List.take_of_length_le (by have := HAT.out.1; have := HVL.out; omega)] at hatv
      have E' : Ext none_ w wr := EL.trans' E fun b hb e => by have e' : b = w.heap.size := e; omega
      have hrowC2 := HROWC.out.frame (w' := wr) (S' := fun b => w.heap.size ≤ b) fun b hb hb2 => ⟨E.block b hb2 (fun e => by have e' : b = w.heap.size := e; omega), by omega⟩
      have hif2 := HIF.out.keep (w' := wr) fun b cs0 f hb => E.block b (lt_of_block hb) (fun e => by
        have e' : b = w.heap.size := e
        subst e'
        rw [HX.out] at hb
        cases hb)
      have hR2 := E.get HR.out (fun e => by
        have e' : R = w.heap.size := e
        have := HR.out
        rw [e', HX.out] at this
        cases this)
      have hus : us.length = tn := hrowC2.at.1
      have htn : tn ≤ 1000 := by have := hif2.1; rw [List.length_map] at this; omega
      have HBC := Lib.hid (backControls_any wr.drew _ ta tn tc (cs.map Prod.fst) us (show Row 128 1 wr.drew _ _ _ from hrowC2) (show IfRow wr.drew _ _ from hif2) htn)
      have HROW := Lib.hid hrow
      have HATV := Lib.hid hatv
      have cX := Lib.cell_of_heap hXb
      have fX := Lib.frozen_of_heap hXb
      have cR := Lib.cell_of_heap hR2
      have HXB := Lib.hid hXb
      clear hrow hatv hXb E hrowC2 hif2 hR2 hus H
      go_wp2_with fail
      go_region_with ((go_at_call 36; refine (HBC.out).mono ?_; rintro e w4 ⟨ka, kn, kc, rfl, hrow4, E4⟩; have hX4 := Ext.get (w := wr.drew) E4 HXB.out (fun h => h); have cX4 := Lib.cell_of_heap hX4; have fX4 := Lib.frozen_of_heap hX4))
      all_goals go_wp2_with fail
      all_goals
        have K := heap_set (heap_set hX4 (i := 0) (.string (strOf name))) (i := 1) (.slice xa xn xc)
        have ck := Lib.cell_of_heap K
        have E5 : Ext none_ wr w4 := ((Ext.refl none_ wr).drew).trans E4
        have Ef : Ext (fun b => b = w.heap.size) wr ((w4.setCell ⟨w.heap.size, 0, none⟩ (.string (strOf name))).setCell ⟨w.heap.size, 1, none⟩ (.slice xa xn xc)) := ((Ext.zero (S := fun b => b = w.heap.size) E5).setAt (b := w.heap.size) (.inr rfl) _).setAt (b := w.heap.size) (.inr rfl) _
        have s5 := E'.size
        have hXr := lt_of_block HXB.out
        refine bodyPost_ret (v := .tuple #[.agg #[.string (strOf name), .slice xa xn xc], .slice ka kn kc, .string ⟨#[]⟩]) (by simp [results, Tryz.results13, go_sem, ck]) rfl ⟨xa, xn, xc, ka, kn, kc, rfl, AttrVals.row (HATV.out.keep fun b cs0 f hb => Ef.get hb (fun e => ?_)) (HROW.out.frame (S' := fun b => wL.heap.size ≤ b) fun b hb hb2 => ⟨Ef.block b hb2 (fun e => ?_), hb⟩), hrow4.frame fun b hb hb2 => ⟨?_, ?_⟩, ((E'.trans E5).setAt (.inl (Nat.le_refl _)) _).setAt (.inl (Nat.le_refl _)) _⟩
        · have e' : b = w.heap.size := e
          subst e'
          rw [HXB.out] at hb
          cases hb
        · have e' : b = w.heap.size := e
          omega
        · have hb' : wr.heap.size ≤ b := hb
          rw [Below.heap_setCell _ _ _ _ (show ¬ b = w.heap.size by omega), Below.heap_setCell _ _ _ _ (show ¬ b = w.heap.size by omega)]
        · have hb' : wr.heap.size ≤ b := hb
          omega

end Go.Proofs.YtocjfcgailkfjaaGreatDoor
end
