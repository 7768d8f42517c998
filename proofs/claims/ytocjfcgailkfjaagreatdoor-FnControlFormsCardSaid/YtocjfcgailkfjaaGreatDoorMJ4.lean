/- unpackAttributes: an entry's attributes out of its packets. -/
import Derived.Test.YtocjfcgailkfjaaGreatDoorMJ1
import Derived.Test.YtocjfcgailkfjaaGreatDoorMJ2
import Derived.Test.YtocjfcgailkfjaaGreatDoorMG5
import Derived.Deep.DeepCutAuto
import Derived.Deep.DrawnRows
import Derived.BigRegion

set_option linter.unusedVariables false
set_option linter.unusedSimpArgs false
set_option linter.unusedSectionVars false

section
namespace Go.Proofs.YtocjfcgailkfjaaGreatDoor
open Go.RowKit

abbrev AT := List UInt8 × List (List UInt8)
def zstr (n : Nat) : Array Value := madeCells #[.string ⟨#[]⟩] n
theorem zstr_size (n : Nat) : (zstr n).size = n := size_madeCells _ _
def zsls (n : Nat) : Array Value := madeCells #[.slice none 0 0] n
theorem zsls_size (n : Nat) : (zsls n).size = n := size_madeCells _ _
def zptr (n : Nat) : Array Value := madeCells #[.pointer none] n
theorem zptr_size (n : Nat) : (zptr n).size = n := size_madeCells _ _

theorem make_strs (c : Nat) (hc : c ≤ 1000000) (w : World) :
    (Instr.makeSlice 46 (.int .i64 (c : Int)) (.int .i64 (c : Int))).run Tryz.prog w = .ok (.slice (some ⟨w.heap.size, 0, none⟩) c c) (w.alloc (.cells (zstr c) 9)) := by
  have hinfo : (Tryz.prog.info? 9).map (fun i => (i.zero, i.size, i.bytes)) = some (some (.string ⟨#[]⟩), 1, 16) := by kernel_rfl
  obtain ⟨i, hi, hz, hs, hb⟩ := info_parts hinfo
  have hr := run_make (P := Tryz.prog) w 46 9 i (.string ⟨#[]⟩) Tryz.underlying46 hi hz .i64 .i64 c c (by omega) (by omega) (by rw [hb]; omega) (by omega)
  simp only [Int.toNat_natCast, hs, Nat.mul_one] at hr
  exact hr
theorem make_sls (c : Nat) (hc : c ≤ 1000000) (w : World) :
    (Instr.makeSlice 104 (.int .i64 (c : Int)) (.int .i64 (c : Int))).run Tryz.prog w = .ok (.slice (some ⟨w.heap.size, 0, none⟩) c c) (w.alloc (.cells (zsls c) 26)) := by
  have hinfo : (Tryz.prog.info? 26).map (fun i => (i.zero, i.size, i.bytes)) = some (some (.slice none 0 0), 1, 24) := by kernel_rfl
  obtain ⟨i, hi, hz, hs, hb⟩ := info_parts hinfo
  have hr := run_make (P := Tryz.prog) w 104 26 i (.slice none 0 0) Tryz.underlying104 hi hz .i64 .i64 c c (by omega) (by omega) (by rw [hb]; omega) (by omega)
  simp only [Int.toNat_natCast, hs, Nat.mul_one] at hr
  exact hr
theorem make_ents (c : Nat) (hc : c ≤ 1000000) (w : World) :
    (Instr.makeSlice 96 (.int .i64 0) (.int .i64 (c : Int))).run Tryz.prog w = .ok (.slice (some ⟨w.heap.size, 0, none⟩) 0 c) (w.alloc (.cells (zptr c) 103)) := by
  have hinfo : (Tryz.prog.info? 103).map (fun i => (i.zero, i.size, i.bytes)) = some (some (.pointer none), 1, 8) := by kernel_rfl
  obtain ⟨i, hi, hz, hs, hb⟩ := info_parts hinfo
  have hr := run_make (P := Tryz.prog) w 96 103 i (.pointer none) Tryz.underlying96 hi hz .i64 .i64 0 c (by omega) (by omega) (by rw [hb]; omega) (by omega)
  simp only [Int.toNat_natCast, hs, Nat.mul_one] at hr
  exact hr
theorem info103 : (Tryz.prog.info? 103).map (fun i => (i.zero, i.size, i.bytes)) = some (some (.pointer none), 1, 8) := by kernel_rfl
theorem append_ent (W : World) (S : Nat → Prop) (sl : Value) (vs : List (List Value)) (sg : Nat) (v : List Value) (hv : v.length = 1) (h : Row 103 1 W S sl vs) (hs : W.heap[sg]? = some (.cells v.toArray 103 (0, 0))) (h1 : ∀ u ∈ v, u.oneCell' = true) (hl : vs.length ≤ 100000) :
    ∃ sa sn sc W', (Builtin.append_ #[96, 96] 96 #[sl, .slice (some ⟨sg, 0, none⟩) 1 1]).run Tryz.prog W = .ok (.slice sa sn sc) W' ∧ Row 103 1 W' (fun x => sl.ownBlock = some x ∨ W.heap.size ≤ x) (.slice sa sn sc) (vs ++ [v]) ∧ Ext (fun x => sl.ownBlock = some x) W W' :=
  append_row 103 96 1 8 _ Tryz.underlying96 info103 rfl (by omega) (by omega) W S sl vs sg v hv h hs h1 hl

def strCells (l : List (List UInt8)) : Array Value := (l.map fun s => Value.string (strOf s)).toArray
/-- Pointers to attributes. -/
def AttrPtrs (w : World) (l : List AT) (vs : List (List Value)) : Prop :=
  vs.length = l.length ∧ ∀ (i : Nat) x, l[i]? = some x → ∃ r bV bv, vs[i]? = some [.pointer (some ⟨r, 0, none⟩)] ∧ w.heap[r]? = some (.cells #[.string (strOf x.1), .slice (some ⟨bV, 0, none⟩) x.2.length x.2.length, bv] 106 (0, 0)) ∧ w.heap[bV]? = some (.cells (strCells x.2) 9 (0, 0))
theorem AttrPtrs.ext {S : Nat → Prop} {w w' : World} {l : List AT} {vs : List (List Value)} (h : AttrPtrs w l vs) (e : Ext S w w') (hs : ∀ b cs T f, w.heap[b]? = some (.cells cs T f) → (T = 106 ∨ T = 9) → ¬ S b) : AttrPtrs w' l vs :=
  ⟨h.1, fun i x hi => by obtain ⟨r, bV, bv, h1, h2, h3⟩ := h.2 i x hi; exact ⟨r, bV, bv, h1, e.get h2 (hs _ _ _ _ h2 (.inl rfl)), e.get h3 (hs _ _ _ _ h3 (.inr rfl))⟩⟩
theorem strCells_row {w : World} {bV : Nat} {l : List (List UInt8)} (h : w.heap[bV]? = some (.cells (strCells l) 9 (0, 0))) : StrRow w (some ⟨bV, 0, none⟩) l.length l := by
  refine ⟨rfl, .inr ⟨bV, 0, rfl, lt_of_block h, fun j s hj => ?_⟩⟩
  rw [Lib.cell_of_heap h, Nat.zero_add]
  simp [strCells, hj]

/-- The inner loop's state. -/
def InSt (wo W : World) (bE bV bB : Nat) (name : List UInt8) (l : List (List UInt8)) (j : Nat) : Prop :=
  W.heap[bE]? = some (.cells #[.string (strOf name), .slice (some ⟨bV, 0, none⟩) l.length l.length, .slice (some ⟨bB, 0, none⟩) l.length l.length] 106 (0, 0)) ∧
  (∃ curV, W.heap[bV]? = some (.cells curV 9 (0, 0)) ∧ curV.size = l.length ∧ ∀ (i : Nat) s, i < j → l[i]? = some s → curV[i]? = some (.string (strOf s))) ∧
  (∃ curB, W.heap[bB]? = some (.cells curB 26 (0, 0)) ∧ curB.size = l.length) ∧ bE ≠ bV ∧ bE ≠ bB ∧ bV ≠ bB ∧ wo.heap.size ≤ bE ∧ wo.heap.size ≤ bV ∧ wo.heap.size ≤ bB ∧ Ext none_ wo W
theorem InSt.done {wo W : World} {bE bV bB : Nat} {name : List UInt8} {l : List (List UInt8)} (h : InSt wo W bE bV bB name l l.length) : W.heap[bV]? = some (.cells (strCells l) 9 (0, 0)) := by
  obtain ⟨-, ⟨curV, h1, h2, h3⟩, -⟩ := h
  rw [h1]
  congr 2
  apply Array.ext_getElem?
  intro i
  by_cases hi : i < l.length
  · rw [h3 i _ hi (List.getElem?_eq_getElem hi)]
    simp [strCells, hi]
  · rw [Array.getElem?_eq_none (by omega), Array.getElem?_eq_none (by simp [strCells]; omega)]
theorem in_step {wo wr : World} {bE bV bB : Nat} {name : List UInt8} {l : List (List UInt8)} {j : Nat} {s : List UInt8} {bv : Value} (h : InSt wo wr bE bV bB name l j) (hs : l[j]? = some s) :
    InSt wo (((wr.setCell ⟨bB, j, none⟩ bv).setCell ⟨bV, j, none⟩ (.string (strOf s))).drew) bE bV bB name l (j + 1) := by
  obtain ⟨h1, ⟨curV, h2, h3, h4⟩, ⟨curB, h5, h6⟩, n1, n2, n3, s1, s2, s3, E⟩ := h
  have hj := (List.getElem?_eq_some_iff.1 hs).1
  refine ⟨heap_set_ne (heap_set_ne h1 n2) n1, ⟨curV.setIfInBounds j (.string (strOf s)), heap_set (heap_set_ne h2 n3) _, by simp [h3], fun i t hi ht => ?_⟩, ⟨curB.setIfInBounds j bv, heap_set_ne (heap_set h5 _) (Ne.symm n3), by simp [h6]⟩, n1, n2, n3, s1, s2, s3, ((E.setAt (.inl s3) _).setAt (.inl s2) _).drew⟩
  by_cases e : i = j
  · subst e
    rw [hs] at ht
    cases ht
    rw [Array.getElem?_setIfInBounds_self_of_lt (by omega)]
  · rw [Array.getElem?_setIfInBounds_ne (Ne.symm e)]
    exact h4 i t (by omega) ht

theorem new3 (w : World) (a b c : Obj) : (((w.alloc a).alloc b).alloc c).heap[w.heap.size]? = some a ∧ (((w.alloc a).alloc b).alloc c).heap[w.heap.size + 1]? = some b ∧ (((w.alloc a).alloc b).alloc c).heap[w.heap.size + 1 + 1]? = some c ∧ Ext none_ w (((w.alloc a).alloc b).alloc c) := by
  obtain ⟨h1, h2, h3⟩ := two_new w a b
  have h4 := heap_new ((w.alloc a).alloc b) c
  rw [World.size_alloc, World.size_alloc] at h4
  exact ⟨heap_old h1, heap_old h2, h4, h3.alloc c⟩
theorem in_new1 (w : World) (name : List UInt8) (l : List (List UInt8)) (m : Nat) (hm : l.length = m) : InSt w (((w.alloc (.cells (zstr m) 9)).alloc (.cells (zsls m) 26)).alloc (.cells #[.string (strOf name), .slice (some ⟨w.heap.size, 0, none⟩) m m, .slice (some ⟨w.heap.size + 1, 0, none⟩) m m] 106)).drew (w.heap.size + 1 + 1) w.heap.size (w.heap.size + 1) name l 0 := by
  subst hm
  obtain ⟨h1, h2, h3, E⟩ := new3 w (.cells (zstr l.length) 9) (.cells (zsls l.length) 26) (.cells #[.string (strOf name), .slice (some ⟨w.heap.size, 0, none⟩) l.length l.length, .slice (some ⟨w.heap.size + 1, 0, none⟩) l.length l.length] 106)
  exact ⟨h3, ⟨_, h1, zstr_size _, fun i s hi _ => by omega⟩, ⟨_, h2, zsls_size _⟩, by omega, by omega, by omega, by omega, by omega, by omega, E.drew⟩
theorem in_new2 (w : World) (name : List UInt8) (l : List (List UInt8)) (m : Nat) (hm : l.length = m) : InSt w (((w.alloc (.cells (zsls m) 26)).alloc (.cells (zstr m) 9)).alloc (.cells #[.string (strOf name), .slice (some ⟨w.heap.size + 1, 0, none⟩) m m, .slice (some ⟨w.heap.size, 0, none⟩) m m] 106)).drew (w.heap.size + 1 + 1) (w.heap.size + 1) w.heap.size name l 0 := by
  subst hm
  obtain ⟨h1, h2, h3, E⟩ := new3 w (.cells (zsls l.length) 26) (.cells (zstr l.length) 9) (.cells #[.string (strOf name), .slice (some ⟨w.heap.size + 1, 0, none⟩) l.length l.length, .slice (some ⟨w.heap.size, 0, none⟩) l.length l.length] 106)
  exact ⟨h3, ⟨_, h2, zstr_size _, fun i s hi _ => by omega⟩, ⟨_, h1, zsls_size _⟩, by omega, by omega, by omega, by omega, by omega, by omega, E.drew⟩

/-- The outer loop's state. -/
def OutSt (w W : World) (l : List AT) (j : Nat) (sl : Value) : Prop :=
  ∃ vs, Row 103 1 W (fun b => w.heap.size ≤ b) sl vs ∧ AttrPtrs W (l.take j) vs ∧ Ext none_ w W
theorem out_step {w wr wi wE : World} {l : List AT} {j : Nat} {sl sl' : Value} {x : AT} {vs : List (List Value)} {bE bV bB : Nat} (hx : l[j]? = some x)
    (hrow : Row 103 1 wr (fun b => w.heap.size ≤ b) sl vs) (hat : AttrPtrs wr (l.take j) vs) (hE : Ext none_ w wr) (hin : InSt wr wi bE bV bB x.1 x.2 x.2.length)
    (hrowE : Row 103 1 wE (fun b => sl.ownBlock = some b ∨ wi.heap.size + 1 ≤ b) sl' (vs ++ [[.pointer (some ⟨bE, 0, none⟩)]])) (o : Obj) (E4 : Ext (fun b => sl.ownBlock = some b) (wi.alloc o) wE) : OutSt w wE l (j + 1) sl' := by
  have hown := hrow.own
  have hV := hin.done
  obtain ⟨hbE, -, -, -, -, -, sE, sV, sB, Ei⟩ := hin
  have E1 : Ext none_ wr (wi.alloc o) := Ei.alloc o
  have s0 := hE.size
  have s1 := Ei.size
  have hne : ∀ b, wr.heap.size ≤ b → ¬ sl.ownBlock = some b := fun b hb e => by have := (hown b e).2; omega
  have Ea := (Ext.refl none_ wi).alloc o
  have hbE' := E4.get (Ea.get hbE (fun h => h)) (hne _ sE)
  have hV' := E4.get (Ea.get hV (fun h => h)) (hne _ sV)
  refine ⟨_, hrowE.frame (fun b hb _ => ⟨rfl, ?_⟩), ?_, (hE.trans E1).trans' E4 (fun b hb h => by have := (hown b h).1; omega)⟩
  · rcases hb with h | h
    · exact (hown b h).1
    · omega
  · have h1 := AttrPtrs.ext (AttrPtrs.ext hat E1 (fun _ _ _ _ _ _ h => h)) E4 (fun b cs T f hb hT e => by
      rcases hrow with ⟨rfl, _⟩ | ⟨g, cap, cur, rfl, _, hg, _⟩
      · simp [Value.ownBlock] at e
      · simp [Value.ownBlock] at e; subst e
        have := E1.get hg (fun h => h)
        rw [this] at hb
        cases hb
        rcases hT with hT | hT <;> exact absurd hT (by decide))
    rw [List.take_add_one, hx]
    refine ⟨by simp [h1.1], fun i y hi => ?_⟩
    by_cases hil : i < (l.take j).length
    · rw [List.getElem?_append_left hil] at hi
      obtain ⟨r, bV', bv', k1, k2, k3⟩ := h1.2 i y hi
      exact ⟨r, bV', bv', by rw [List.getElem?_append_left (by rw [h1.1]; exact hil)]; exact k1, k2, k3⟩
    · rw [List.getElem?_append_right (by omega)] at hi
      have hi0 : i = (l.take j).length := by
        have := (List.getElem?_eq_some_iff.1 hi).1
        simp only [Option.toList_some, List.length_singleton] at this; omega
      subst hi0
      simp at hi
      subst hi
      refine ⟨bE, bV, _, ?_, hbE', hV'⟩
      rw [List.getElem?_append_right (by rw [h1.1]; exact Nat.le_refl _), h1.1, Nat.sub_self]; rfl

theorem attr_parts {w : World} {S : Nat → Prop} {x : AT} {q : Nat} (h : PkAt ValOk w S (attrT x) q) : ∃ qn qv bs bs2 pvs, PkOwn w S q 0 32 16 .nilIface bs [qn, qv] ∧ PkOwn w S qn 0 0 4 (.iface 9 (.string (strOf x.1))) x.1 [] ∧ PkOwn w S qv 0 32 17 .nilIface bs2 pvs ∧ PkAtL ValOk w S (x.2.map (T.prim 0 4)) pvs := by
  unfold attrT PkAt at h
  obtain ⟨ps, h1, h2⟩ := h
  match ps, h2 with
  | [qn, qv], h2 =>
    simp only [PkAtL, PkAt, and_true] at h2
    obtain ⟨⟨v0, a0, b0⟩, ⟨pvs, a1, b1⟩⟩ := h2
    rw [b0.str] at a0
    exact ⟨qn, qv, _, _, pvs, h1, a0, a1, b1⟩
  | [], h2 => simp [PkAtL] at h2
  | [_], h2 => simp [PkAtL] at h2
  | _ :: _ :: _ :: _, h2 => simp [PkAtL] at h2
theorem val_part {w : World} {S : Nat → Prop} {l : List (List UInt8)} {pvs : List Nat} (h : PkAtL ValOk w S (l.map (T.prim 0 4)) pvs) {i : Nat} {s : List UInt8} (hs : l[i]? = some s) : ∃ q, pvs[i]? = some q ∧ PkOwn w S q 0 0 4 (.iface 9 (.string (strOf s))) s [] := by
  obtain ⟨q, h1, h2⟩ := PkAtL.get _ _ i (T.prim 0 4 s) h (by simp [hs])
  unfold PkAt at h2
  obtain ⟨v, a, b⟩ := h2
  rw [b.str] at a
  exact ⟨q, h1, a⟩

/-- What unpackAttributes gives. -/
def Unp (w : World) (l : List AT) (e : Ending) (w' : World) : Prop :=
  ∃ sa sn sc vs, e = .returned (.tuple #[.slice sa sn sc, .nilIface]) ∧ Row 103 1 w' (fun b => w.heap.size ≤ b) (.slice sa sn sc) vs ∧ AttrPtrs w' l vs ∧ Ext none_ w w'

set_option maxHeartbeats 1000000 in
set_option maxRecDepth 100000 in
theorem unpack_any (w : World) (S : Nat → Prop) (g n cap : Nat) (l : List AT) (ps : List Nat) (hch : ChAt w g (.slice (some ⟨g, 0, none⟩) n cap) ps) (hl : l.length = n) (hn : n ≤ 1000) (hv : ∀ x ∈ l, x.2.length ≤ 1000) (h : PkAtL ValOk w S (l.map attrT) ps) :
    Calls Tryz.prog 112 #[.slice (some ⟨g, 0, none⟩) n cap] w (Unp w l) := by
  obtain ⟨cap', cur, e1, hg, hcs, hlc, hcm, hcur⟩ := hch
  cases e1
  have hgl := lt_of_block hg
  have hpl : ps.length = l.length := by have := PkAtL.length _ _ h; simpa using this
  obtain ⟨n, hn'⟩ : ∃ n, ps.length = n := ⟨_, rfl⟩
  rw [hn'] at hlc hn ⊢
  have HL := Lib.hid (hl.trans hn')
  have HK := Lib.hid h
  have HV := Lib.hid hv
  have HC := Lib.hid hcur
  have HG := Lib.hid hg
  unfold maxLen at hcm
  clear hl h hv hcur hg hpl hn' hcs
  have hmk := make_ents n (by omega)
  have HS0 : OutSt w (w.alloc (.cells (zptr n) 103)) l 0 (.slice (some ⟨w.heap.size, 0, none⟩) 0 n) :=
    ⟨[], Row.mk (vs := []) (heap_new w (.cells (zptr n) 103)) (Nat.le_refl _) (Nat.zero_le _) (by unfold maxLen; omega) (by rw [zptr_size]; omega) (fun v hv => by simp at hv) (by simp), ⟨by simp, fun i x hi => by simp at hi⟩, (Ext.refl _ w).alloc _⟩
  have HS1 := Lib.hid HS0
  clear HS0
  go_enter Tryz.func112, Tryz.ntmps112
  go_wp2_with fail
  clear hmk
  go_loopw [4, 22] (fun v4 v22 W => ∃ j sa sn sc, j ≤ n ∧ v22 = .int .i64 (j : Nat) ∧ v4 = .slice sa sn sc ∧ Hid (OutSt w W l j (.slice sa sn sc))) (fun _ v22 _ => n - (intOf v22).toNat)
  case atStart => exact ⟨0, _, _, _, by omega, rfl, rfl, HS1⟩
  case round =>
    obtain ⟨j, sa, sn, sc, hj, rfl, rfl, H⟩ := hrel
    clear HS1
    by_cases hlt : j < n
    · have hji : (j : Int) < (n : Int) := by omega
      obtain ⟨x, hx⟩ : ∃ x, l[j]? = some x := ⟨l[j]'(by have := HL.out; omega), List.getElem?_eq_getElem _⟩
      obtain ⟨vs, hrow, hat, hE⟩ := H.out
      obtain ⟨q, hq, hpk⟩ := PkAtL.get _ _ j (attrT x) HK.out (by simp [hx])
      obtain ⟨qn, qv, bs, bs2, pvs, hq1, hq2, hq3, hq4⟩ := attr_parts hpk
      have hc1 : wr.cell? ⟨g, j, none⟩ = some (.pointer (some ⟨q, 0, none⟩)) := by
        rw [hE.cell (p := ⟨g, j, none⟩) hgl (fun h => h), Lib.cell_of_heap HG.out]; exact HC.out j q hq
      have hm : x.2.length ≤ 1000 := HV.out x (List.mem_of_getElem? hx)
      have HX := Lib.hid hx
      have HR := Lib.hid hrow
      have HA := Lib.hid hat
      have HQ1 := Lib.hid (hq1.ext hE)
      have HQ2 := Lib.hid (hq2.ext hE)
      have HQ3 := Lib.hid (hq3.ext hE)
      have HQ4 := Lib.hid (PkAtL.frame (w' := wr) (S' := S) (fun b hb hb2 => ⟨hE.block b hb2 (fun h => h), hb⟩) _ _ hq4)
      clear hx hrow hat hq hpk hq1 hq2 hq3 hq4 H
      obtain ⟨m, hm'⟩ : ∃ m, x.2.length = m := ⟨_, rfl⟩
      have HM := Lib.hid hm'
      rw [hm'] at hm
      clear hm'
      go_wp2_with fail
      refine (packetChild_any wr S q 0 32 16 .nilIface bs [qn, qv] 0 qn 0 rfl HQ1.out rfl).mono ?_
      rintro e w1 ⟨rfl, rfl⟩
      go_wp2_with fail
      refine (packetChild_any wr S q 0 32 16 .nilIface bs [qn, qv] 1 qv 1 rfl HQ1.out rfl).mono ?_
      rintro e w1 ⟨rfl, rfl⟩
      go_wp2_with fail
      refine (packetString_any wr S qn 0 0 4 (strOf x.1) x.1 [] HQ2.out).mono ?_
      rintro e w1 ⟨rfl, rfl⟩
      obtain ⟨dv, rowv, bvv, gv, chv, dsv, hpv, -, ⟨capv, curv, rfl, hgv, -, hlcv, hcmv, hcurv⟩, -⟩ := HQ3.out
      have hpvl : pvs.length = m := by have := PkAtL.length _ _ HQ4.out; simp at this; rw [this]; exact HM.out
      rw [hpvl] at hpv hlcv
      have cv := Lib.cell_of_heap hpv
      have HGV := Lib.hid hgv
      have HCV := Lib.hid hcurv
      have HPV := Lib.hid hpv
      unfold maxLen at hcmv
      clear hgv hcurv hpvl hpv
      go_upto_region 17 with fail
      have hmS := make_strs m (by omega)
      have hmB := make_sls m (by omega)
      go_cut [12] from 57 to 65 (fun v12 W => ∃ bE bV bB, v12 = .pointer (some ⟨bE, 0, none⟩) ∧ Hid (InSt wr W bE bV bB x.1 x.2 0))
      case first =>
        go_region
        all_goals
          go_wp2_with fail
          go_meet
          case rel =>
            first
              | exact ⟨_, _, _, rfl, Lib.hid (in_new1 wr x.1 x.2 m HM.out)⟩
              | exact ⟨_, _, _, rfl, Lib.hid (in_new2 wr x.1 x.2 m HM.out)⟩
      case rest =>
        obtain ⟨bE, bV, bB, rfl, HI⟩ := hcut
        obtain ⟨wo, rfl⟩ : ∃ wo : World, wo = wr := ⟨_, rfl⟩
        clear hmS hmB cv hc1
        have hgvl : gv < wo.heap.size := lt_of_block HGV.out
        go_wp2_with fail
        go_loopw [68] (fun v68 W => ∃ i, i ≤ m ∧ v68 = .int .i64 (i : Nat) ∧ Hid (InSt wo W bE bV bB x.1 x.2 i)) (fun v68 _ => m - (intOf v68).toNat)
        case atStart => exact ⟨0, by omega, rfl, HI⟩
        case round =>
          obtain ⟨i, hi, rfl, HI2⟩ := hrel
          clear HI
          by_cases hlt2 : i < m
          · have hii : (i : Int) < (m : Int) := by omega
            obtain ⟨s, hs⟩ : ∃ s, x.2[i]? = some s := ⟨x.2[i]'(by have := HM.out; omega), List.getElem?_eq_getElem _⟩
            obtain ⟨q2, hq2, hown2⟩ := val_part HQ4.out hs
            obtain ⟨k1, ⟨curV, k2, k3, -⟩, ⟨curB, k4, k5⟩, n1, n2, n3, -, -, -, Ei⟩ := HI2.out
            have hc2 : wr.cell? ⟨gv, i, none⟩ = some (.pointer (some ⟨q2, 0, none⟩)) := by
              rw [Ei.cell (p := ⟨gv, i, none⟩) hgvl (fun h => h), Lib.cell_of_heap HGV.out]; exact HCV.out i q2 hq2
            have hown3 := hown2.ext Ei
            have HO := Lib.hid (packetString_any wr S q2 0 0 4 (strOf s) s [] hown3)
            obtain ⟨d2, row2, bv2, g2, ch2, ds2, hp2, -, -, -, -, -, -, -, bva, bvn, bvc, rfl⟩ := hown3
            rw [HM.out] at k1
            have c1 := Lib.cell_of_heap k1
            have c2 := Lib.cell_of_heap hp2
            have hV1 : wr.cell? ⟨bV, i, none⟩ = some curV[i]! := by
              rw [Lib.cell_of_heap k2, Array.getElem?_eq_getElem (by have := HM.out; omega), getElem!_pos curV i (by have := HM.out; omega)]
            have hV2 := Lib.frozen_of_heap k2
            have hB1 : wr.cell? ⟨bB, i, none⟩ = some curB[i]! := by
              rw [Lib.cell_of_heap k4, Array.getElem?_eq_getElem (by have := HM.out; omega), getElem!_pos curB i (by have := HM.out; omega)]
            have hB2 := Lib.frozen_of_heap k4
            have HST := Lib.hid (in_step (bv := .slice bva bvn bvc) HI2.out hs)
            clear hs hq2 hown2 k1 k2 k3 k4 k5 hp2 Ei
            go_wp2_with fail
            refine HO.out.mono ?_
            rintro e w1 ⟨rfl, rfl⟩
            go_wp2_with fail
            go_region
            go_wp2_with fail
            go_roundw
            case rel => exact ⟨i + 1, by omega, by go_num, HST⟩
            case measure => simp [intOf]; omega
          · have hii : ¬ (i : Int) < (m : Int) := by omega
            obtain rfl : i = m := by omega
            have HI3 : Hid (InSt wo wr bE bV bB x.1 x.2 x.2.length) := Lib.hid (by rw [HM.out]; exact HI2.out)
            have Ei := HI2.out.2.2.2.2.2.2.2.2.2
            have Ea := (Ext.refl none_ wr).alloc (.cells #[.pointer (some ⟨bE, 0, none⟩)] 103)
            have hvl : vs.length ≤ 100000 := by
              have := HA.out.1
              rw [this, List.length_take]; omega
            obtain ⟨za, zn, zc, wE, hrun, hrowE, EE⟩ := append_ent _ _ (.slice sa sn sc) vs wr.heap.size [.pointer (some ⟨bE, 0, none⟩)] rfl ((HR.out.ext Ei).ext Ea) (heap_new wr _) (by simp [Value.oneCell']) hvl
            rw [World.size_alloc] at hrowE
            have HF := Lib.hid (out_step HX.out HR.out HA.out hE HI3.out hrowE _ EE)
            clear hrowE EE Ea Ei hvl hE
            go_wp2_with (at_builtin; refine Lib.wpList_append_run _ rfl _ _ _ _ rfl _ _ rfl rfl _ _ hrun ?_)
            go_roundw
            case rel =>
              first
                | exact ⟨j + 1, za, zn, zc, by omega, by go_num, rfl, HF⟩
                | (repeat apply Exists.intro
                   exact ⟨⟨j + 1, za, zn, zc, by omega, by go_num, rfl, HF⟩, rfl⟩)
            case measure => simp [intOf]; omega
    · have hji : ¬ (j : Int) < (n : Int) := by omega
      obtain rfl : j = n := by omega
      obtain ⟨vs, hrow, hat, hE⟩ := H.out
      rw [List.take_of_length_le (by have := HL.out; omega)] at hat
      have HR := Lib.hid hrow
      have HA := Lib.hid hat
      clear hrow hat H
      go_wp2_with fail
      exact bodyPost_ret (v := .tuple #[.slice sa sn sc, .nilIface]) (by simp [results, Tryz.results112]) rfl ⟨sa, sn, sc, vs, rfl, HR.out, HA.out, hE⟩

end Go.Proofs.YtocjfcgailkfjaaGreatDoor
end
