/- backControls: a list of unknown controls as plain data. The loop that decodes a message's controls: its state and its step. -/
import Derived.Test.YtocjfcgailkfjaaGreatDoorMJ2
import Derived.Test.YtocjfcgailkfjaaGreatDoorMG4

set_option linter.unusedVariables false
set_option linter.unusedSimpArgs false
set_option linter.unusedSectionVars false

section
namespace Go.Proofs.YtocjfcgailkfjaaGreatDoor
open Go.RowKit

/-- A control that nobody knows: its type, its truth, its text. -/
abbrev UC := List UInt8 × Bool × List UInt8
/-- The interface values of decoded controls. -/
def IfRow (w : World) (l : List UC) (vs : List (List Value)) : Prop :=
  vs.length = l.length ∧ ∀ (i : Nat) x, l[i]? = some x → ∃ g, vs[i]? = some [.iface 203 (.pointer (some ⟨g, 0, none⟩))] ∧ w.heap[g]? = some (.cells #[.string (strOf x.1), .bool x.2.1, .string (strOf x.2.2)] 259 (0, 0))
theorem IfRow.ext {w w' : World} {l : List UC} {vs : List (List Value)} (h : IfRow w l vs) (e : Ext none_ w w') : IfRow w' l vs :=
  ⟨h.1, fun i x hi => by obtain ⟨g, h1, h2⟩ := h.2 i x hi; exact ⟨g, h1, e.get h2 (fun h => h)⟩⟩
def c12 (x : UC) : List Value := ctl12 x.1 x.2.1 x.2.2
theorem info65 : (Tryz.prog.info? 65).map (fun i => (i.zero, i.size, i.bytes)) = some (some (.agg #[.int .i64 0, .string ⟨#[]⟩, .bool false, .bool false, .int .i64 0, .int .i64 0, .int .i64 0, .string ⟨#[]⟩, .string ⟨#[]⟩, .string ⟨#[]⟩, .slice none 0 0, .slice none 0 0]), 12, 152) := by kernel_rfl
theorem append_ctl (W : World) (S : Nat → Prop) (sl : Value) (vs : List (List Value)) (sg : Nat) (v : List Value) (hv : v.length = 12) (h : Row 65 12 W S sl vs) (hs : W.heap[sg]? = some (.cells v.toArray 65 (0, 0))) (h1 : ∀ u ∈ v, u.oneCell' = true) (hl : vs.length ≤ 100000) :
    ∃ sa sn sc W', (Builtin.append_ #[30, 30] 30 #[sl, .slice (some ⟨sg, 0, none⟩) 1 1]).run Tryz.prog W = .ok (.slice sa sn sc) W' ∧ Row 65 12 W' (fun x => sl.ownBlock = some x ∨ W.heap.size ≤ x) (.slice sa sn sc) (vs ++ [v]) ∧ Ext (fun x => sl.ownBlock = some x) W W' :=
  append_row 65 30 12 152 _ Tryz.underlying30 info65 rfl (by omega) (by omega) W S sl vs sg v hv h hs h1 hl

set_option maxHeartbeats 800000 in
set_option maxRecDepth 100000 in
theorem backControls_any (w : World) (S : Nat → Prop) (a : Option Addr) (n c : Nat) (l : List UC) (vs : List (List Value)) (h : Row 128 1 w S (.slice a n c) vs) (hi : IfRow w l vs) (hn : n ≤ 1000) :
    Calls Tryz.prog 36 #[.slice a n c] w fun e w' => ∃ sa sn sc, e = .returned (.slice sa sn sc) ∧ Row 65 12 w' (fun x => w.heap.size ≤ x) (.slice sa sn sc) (l.map c12) ∧ Ext none_ w w' := by
  obtain ⟨hvl, hnc, hcm, hcells⟩ := h.at
  have HN := Lib.hid hvl
  have HI := Lib.hid hi
  unfold maxLen at hcm
  clear hvl hi h
  go_enter Tryz.func36, Tryz.ntmps36
  go_wp2_with fail
  go_loopw [3, 5, 8] (fun v3 _ v8 W => ∃ j sa sn sc, j ≤ n ∧ v8 = .int .i64 (j : Nat) ∧ v3 = .slice sa sn sc ∧ Hid (Row 65 12 W (fun x => w.heap.size ≤ x) (.slice sa sn sc) ((l.map c12).take j)) ∧ Ext none_ w W) (fun _ _ v8 _ => n - (intOf v8).toNat)
  case atStart => exact ⟨0, none, 0, 0, by omega, rfl, rfl, Lib.hid (.inl ⟨rfl, by simp⟩), Ext.refl none_ w⟩
  case round =>
    obtain ⟨j, sa, sn, sc, hj, rfl, rfl, H, hE⟩ := hrel
    by_cases hlt : j < n
    · have hji : (j : Int) < (n : Int) := by omega
      obtain ⟨x, hx⟩ : ∃ x, l[j]? = some x := ⟨l[j]'(by have := HN.out; have := HI.out.1; omega), List.getElem?_eq_getElem _⟩
      obtain ⟨gx, hvx, hgx⟩ := HI.out.2 j x hx
      obtain ⟨g, rfl, hgl, hSg, hc⟩ := hcells.resolve_left (fun e => by rw [e] at hvx; simp at hvx)
      have hc0 := hc j 0 _ _ hvx rfl
      rw [Nat.mul_one, Nat.add_zero] at hc0
      have hc1 : wr.cell? ⟨g, j, none⟩ = some (.iface 203 (.pointer (some ⟨gx, 0, none⟩))) := by rw [hE.cell (p := ⟨g, j, none⟩) hgl (fun h => h)]; exact hc0
      have hvs : (l.map c12).take (j + 1) = (l.map c12).take j ++ [c12 x] := by
        rw [List.take_add_one]; simp [hx]
      have HV := Lib.hid hvs
      have hlen : ((l.map c12).take j).length ≤ 100000 := by rw [List.length_take]; omega
      have hgr := Lib.hid (hE.get hgx (fun h => h))
      clear hx hvs hgx hvx hc hc0
      go_wp2_with fail
      refine Calls.mono (show Calls Tryz.prog 56 _ wr fun e w' => e = .returned (.agg #[.int .i64 0, .string (strOf x.1), .bool x.2.1, .bool false, .int .i64 0, .int .i64 0, .int .i64 0, .string ⟨#[]⟩, .string (strOf x.2.2), .string ⟨#[]⟩, .slice none 0 0, .slice none 0 0]) ∧ Ext none_ wr w' from backControl_any wr gx x.1 x.2.2 x.2.1 hgr.out) ?_
      rintro e w2 ⟨rfl, E2⟩
      have E3 := (Ext.refl none_ w2).alloc (.cells #[.int .i64 0, .string (strOf x.1), .bool x.2.1, .bool false, .int .i64 0, .int .i64 0, .int .i64 0, .string ⟨#[]⟩, .string (strOf x.2.2), .string ⟨#[]⟩, .slice none 0 0, .slice none 0 0] 65)
      obtain ⟨sa', sn', sc', W', hrun, hB', E4⟩ := append_ctl _ _ (.slice sa sn sc) _ w2.heap.size (c12 x) rfl ((H.out.ext E2).ext E3) (heap_new w2 _) (by simp [c12, ctl12, Value.oneCell']) hlen
      have hown := H.out.own
      have E04 : Ext none_ w W' := ((hE.trans E2).trans E3).trans' E4 (fun b hb h => by have := (hown b h).1; omega)
      have hB'' : Row 65 12 W' (fun x => w.heap.size ≤ x) (.slice sa' sn' sc') ((l.map c12).take (j + 1)) := by
        rw [HV.out]
        refine hB'.frame fun b hb hb2 => ⟨rfl, ?_⟩
        rcases hb with hb | hb
        · exact (hown b hb).1
        · have h1 := hE.size; have h2 := E2.size; simp at hb; omega
      have HB := Lib.hid hB''
      clear hB' hB'' E4 hown
      go_wp2_with (at_builtin; refine Lib.wpList_append_run _ rfl _ _ _ _ rfl _ _ rfl rfl _ _ hrun ?_)
      go_roundw
      case rel =>
        first
          | exact ⟨j + 1, sa', sn', sc', by omega, by go_num, rfl, HB, E04⟩
          | (repeat apply Exists.intro
             exact ⟨⟨j + 1, sa', sn', sc', by omega, by go_num, rfl, HB, E04⟩, rfl⟩)
      case measure => simp [intOf]; omega
    · have hji : ¬ (j : Int) < (n : Int) := by omega
      obtain rfl : j = n := by omega
      go_wp2_with fail
      have hB := H.out
      rw [List.take_of_length_le (by rw [List.length_map]; have := HN.out; have := HI.out.1; omega)] at hB
      exact bodyPost_ret (v := .slice sa sn sc) (by simp [results, Tryz.results36]) rfl ⟨sa, sn, sc, rfl, hB, hE⟩

end Go.Proofs.YtocjfcgailkfjaaGreatDoor
end

section
namespace Go.Proofs.YtocjfcgailkfjaaGreatDoor
open Go.RowKit

def ctlTree (x : UC × Bool) : T := ctlT x.1.1 x.1.2.1 x.2 x.1.2.2
theorem info128 : (Tryz.prog.info? 128).map (fun i => (i.zero, i.size, i.bytes)) = some (some .nilIface, 1, 16) := by kernel_rfl
theorem append_if (W : World) (S : Nat → Prop) (sl : Value) (vs : List (List Value)) (sg : Nat) (v : List Value) (hv : v.length = 1) (h : Row 128 1 W S sl vs) (hs : W.heap[sg]? = some (.cells v.toArray 128 (0, 0))) (h1 : ∀ u ∈ v, u.oneCell' = true) (hl : vs.length ≤ 100000) :
    ∃ sa sn sc W', (Builtin.append_ #[100, 100] 100 #[sl, .slice (some ⟨sg, 0, none⟩) 1 1]).run Tryz.prog W = .ok (.slice sa sn sc) W' ∧ Row 128 1 W' (fun x => sl.ownBlock = some x ∨ W.heap.size ≤ x) (.slice sa sn sc) (vs ++ [v]) ∧ Ext (fun x => sl.ownBlock = some x) W W' :=
  append_row 128 100 1 16 _ Tryz.underlying100 info128 rfl (by omega) (by omega) W S sl vs sg v hv h hs h1 hl

theorem IfRow.keep {w w' : World} {l : List UC} {vs : List (List Value)} (h : IfRow w l vs) (hk : ∀ (b : Nat) (cs : Array Value) (f : Nat × Nat), w.heap[b]? = some (Obj.cells cs 259 f) → w'.heap[b]? = w.heap[b]?) : IfRow w' l vs :=
  ⟨h.1, fun i x hi => by obtain ⟨g, h1, h2⟩ := h.2 i x hi; exact ⟨g, h1, (hk _ _ _ h2).trans h2⟩⟩
theorem Row.ownT {E k : Nat} {w : World} {S : Nat → Prop} {sl : Value} {vs : List (List Value)} (h : Row E k w S sl vs) {b : Nat} (hb : sl.ownBlock = some b) : ∃ cur, w.heap[b]? = some (.cells cur E (0, 0)) := by
  rcases h with ⟨rfl, _⟩ | ⟨g, cap, cur, rfl, hS, hg, _⟩
  · simp [Value.ownBlock] at hb
  · simp [Value.ownBlock] at hb; subst hb; exact ⟨cur, hg⟩

/-- What the loop does not touch. -/
def KeepT (R : Nat) (w W : World) : Prop := ∀ (b : Nat) (cs0 : Array Value) (T0 : TypeId) (f0 : Nat × Nat), w.heap[b]? = some (Obj.cells cs0 T0 f0) → T0 ≠ 220 → T0 ≠ 128 → b ≠ R → W.heap[b]? = some (Obj.cells cs0 T0 f0)
def CtlSt (w1 W : World) (S A : Nat → Prop) (R T : Nat) (f : Value → Array Value) (cs : List (UC × Bool)) (pcs : List Nat) (j : Nat) (sl : Value) : Prop :=
  ∃ vs, Row 128 1 W (fun b => A b ∨ w1.heap.size ≤ b) sl vs ∧ IfRow W ((cs.take j).map Prod.fst) vs ∧ W.heap[R]? = some (.cells (f sl) T (0, 0)) ∧ PkAtL ValOk W S (cs.map ctlTree) pcs ∧ Ext (fun b => b = R ∨ S b ∨ A b) w1 W ∧ KeepT R w1 W

theorem ctl_step {w1 wr w2 W3 : World} {S A : Nat → Prop} {R c T : Nat} {f : Value → Array Value} {cs : List (UC × Bool)} {pcs : List Nat} {j : Nat} {sl sl' : Value} {x : UC × Bool} {vs : List (List Value)} {g : Nat} {o : Obj}
    (hx : cs[j]? = some x) (hRS : ¬ S R) (hA : ∀ b, S b → ¬ A b ∧ b < w1.heap.size) (hR : R < w1.heap.size) (hT : T ≠ 128 ∧ T ≠ 220 ∧ T ≠ 259) (hf : ∀ a b, (f a).setIfInBounds c b = f b)
    (hrow : Row 128 1 wr (fun b => A b ∨ w1.heap.size ≤ b) sl vs) (hif : IfRow wr ((cs.take j).map Prod.fst) vs) (hRb : wr.heap[R]? = some (.cells (f sl) T (0, 0))) (hpk : PkAtL ValOk wr S (cs.map ctlTree) pcs) (E : Ext (fun b => b = R ∨ S b ∨ A b) w1 wr) (KT : KeepT R w1 wr)
    (D : Desc S wr w2) (hg : w2.heap[g]? = some (.cells #[.string (strOf x.1.1), .bool x.1.2.1, .string (strOf x.1.2.2)] 259 (0, 0)))
    (hrow3 : Row 128 1 W3 (fun b => sl.ownBlock = some b ∨ w2.heap.size + 1 ≤ b) sl' (vs ++ [[.iface 203 (.pointer (some ⟨g, 0, none⟩))]])) (E3 : Ext (fun b => sl.ownBlock = some b) (w2.alloc o) W3) :
    W3.heap[R]? = some (.cells (f sl) T (0, 0)) ∧ CtlSt w1 (W3.setCell ⟨R, c, none⟩ sl') S A R T f cs pcs (j + 1) sl' := by
  have hown := hrow.own
  have s0 := E.size
  have s1 := D.size
  have Ea := (Ext.refl none_ w2).alloc o
  have hRb2 := D.get hRb hT.2.1
  have ownT : ∀ b, sl.ownBlock = some b → ∃ cur, (w2.alloc o).heap[b]? = some (.cells cur 128 (0, 0)) := fun b hb => by
    obtain ⟨cur, h⟩ := hrow.ownT hb
    exact ⟨cur, Ea.get (D.get h (by decide)) (fun h => h)⟩
  have hRb3 : W3.heap[R]? = some (.cells (f sl) T (0, 0)) := E3.get (Ea.get hRb2 (fun h => h)) (fun e => by
    obtain ⟨cur, h⟩ := ownT R e
    rw [Ea.get hRb2 (fun h => h)] at h
    cases h
    exact hT.1 rfl)
  refine ⟨hRb3, _, hrow3.frame (fun b hb hb2 => ⟨?_, ?_⟩), ?_, ?_, ?_, ?_, ?_⟩
  · refine Below.heap_setCell _ _ _ _ (fun e => ?_)
    subst e
    rcases hb with hb | hb
    · obtain ⟨cur, h⟩ := ownT b hb
      rw [Ea.get hRb2 (fun h => h)] at h
      cases h
      exact hT.1 rfl
    · omega
  · rcases hb with hb | hb
    · exact (hown b hb).1
    · exact .inr (by omega)
  · -- the interface values
    have k1 : IfRow w2 ((cs.take j).map Prod.fst) vs := hif.keep fun b cs f hb => (D.get hb (by decide)).trans hb.symm
    have key : ∀ (b : Nat) (cs : Array Value) (f : Nat × Nat), (w2.alloc o).heap[b]? = some (Obj.cells cs 259 f) → (W3.setCell ⟨R, c, none⟩ sl').heap[b]? = (w2.alloc o).heap[b]? := fun b cs f hb => by
      rw [Below.heap_setCell _ _ _ _ (fun e => by
        subst e
        rw [Ea.get hRb2 (fun h => h)] at hb
        cases hb
        exact hT.2.2 rfl)]
      exact E3.block b (lt_of_block hb) (fun e => by
        obtain ⟨cur, h⟩ := ownT b e
        rw [hb] at h
        cases h)
    have k2 := (k1.ext Ea).keep key
    have hg2 := (key g _ _ (Ea.get hg (fun h => h))).trans (Ea.get hg (fun h => h))
    rw [List.take_add_one, hx, List.map_append]
    refine ⟨by simp [k2.1], fun i y hi => ?_⟩
    by_cases hil : i < ((cs.take j).map Prod.fst).length
    · rw [List.getElem?_append_left hil] at hi
      obtain ⟨g', a1, a2⟩ := k2.2 i y hi
      exact ⟨g', by rw [List.getElem?_append_left (by rw [k2.1]; exact hil)]; exact a1, a2⟩
    · rw [List.getElem?_append_right (by omega)] at hi
      have hi0 : i = ((cs.take j).map Prod.fst).length := by
        have := (List.getElem?_eq_some_iff.1 hi).1
        simp only [Option.toList_some, List.map_cons, List.map_nil, List.length_singleton] at this; omega
      subst hi0
      rw [Nat.sub_self] at hi
      simp at hi
      subst hi
      refine ⟨g, ?_, hg2⟩
      rw [List.getElem?_append_right (by rw [k2.1]; exact Nat.le_refl _), k2.1, Nat.sub_self]; rfl
  · rw [heap_set hRb3, hf]
  · refine PkAtL.frame (fun b hb hb2 => ⟨?_, hb⟩) _ _ (PkAtL.desc D _ _ hpk)
    rw [Below.heap_setCell _ _ _ _ (fun e => by subst e; exact hRS hb)]
    rw [E3.block b (by rw [World.size_alloc]; omega) (fun e => by
      rcases (hown b e).1 with h | h
      · exact (hA b hb).1 h
      · have := (hA b hb).2; omega)]
    exact Ea.block b hb2 (fun h => h)
  · have D' : Ext (fun b => b = R ∨ S b ∨ A b) wr w2 := D.ext.mono fun b _ h => .inr (.inl h)
    refine Ext.setCell ?_ (fun _ => .inl rfl) _
    refine (E.trans (D'.alloc o)).trans' E3 fun b hb h => ?_
    rcases (hown b h).1 with h | h
    · exact .inr (.inr h)
    · omega
  · intro b cs0 T0 f0 hb h1 h2 h3
    have k2 := Ea.get (D.get (KT b cs0 T0 f0 hb h1 h2 h3) h1) (fun h => h)
    rw [Below.heap_setCell _ _ _ _ h3]
    exact E3.get k2 (fun e => by
      obtain ⟨cur, h⟩ := ownT b e
      rw [k2] at h
      cases h
      exact h2 rfl)

/-- The parts of a message that was read. -/
theorem msg_parts {w : World} {S : Nat → Prop} {bs : List UInt8} {op : T} {ctls : List T} {p : Nat} (h : PkAt ValOk w S (msgT bs op ctls) p) :
    ∃ enc q0 q1, PkAt ValOk w S op q1 ∧ ((ctls = [] ∧ PkOwn w S p 0 32 16 .nilIface enc [q0, q1]) ∨ (ctls ≠ [] ∧ ∃ q2 enc2 pcs, PkOwn w S p 0 32 16 .nilIface enc [q0, q1, q2] ∧ PkOwn w S q2 128 32 0 .nilIface enc2 pcs ∧ PkAtL ValOk w S ctls pcs)) := by
  unfold msgT PkAt at h
  obtain ⟨ps, h1, h2⟩ := h
  by_cases hc : ctls = []
  · rw [if_pos hc] at h1 h2
    match ps, h2 with
    | [q0, q1], h2 =>
      simp only [List.append_nil, PkAtL, and_true] at h2
      exact ⟨_, q0, q1, h2.2, .inl ⟨hc, h1⟩⟩
    | [], h2 => simp [PkAtL] at h2
    | [_], h2 => simp [PkAtL] at h2
    | _ :: _ :: _ :: _, h2 => simp [PkAtL] at h2
  · rw [if_neg hc] at h1 h2
    match ps, h2 with
    | [q0, q1, q2], h2 =>
      simp only [List.cons_append, List.nil_append, PkAtL, and_true] at h2
      obtain ⟨-, h3, h4⟩ := h2
      unfold PkAt at h4
      obtain ⟨pcs, h5, h6⟩ := h4
      exact ⟨_, q0, q1, h3, .inr ⟨hc, q2, _, pcs, h1, h5, h6⟩⟩
    | [], h2 => simp [PkAtL] at h2
    | [_], h2 => simp [PkAtL] at h2
    | [_, _], h2 => simp [PkAtL] at h2
    | _ :: _ :: _ :: _ :: _, h2 => simp [PkAtL] at h2

end Go.Proofs.YtocjfcgailkfjaaGreatDoor
end
