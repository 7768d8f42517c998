/- ControlRead: what it gives, given what DecodeControl and backControl give. Each known control is read as the same twelve cells from all of its forms. ldapKnown: what is known of a control is written, and read as the same cells from all of its forms. -/
import Derived.Test.YtocjfcgailkfjaaGreatDoorMO3
import Derived.Test.YtocjfcgailkfjaaGreatDoorME3
import Derived.Test.YtocjfcgailkfjaaGreatDoorMO4
import Derived.Test.YtocjfcgailkfjaaGreatDoorMN5

set_option linter.unusedVariables false
set_option linter.unusedSimpArgs false
set_option linter.unusedSectionVars false

section
namespace Go.Proofs.YtocjfcgailkfjaaGreatDoor
open Go.RowKit

/-- DecodeControl, then backControl, give these cells. -/
def DecBack (W : World) (S : Nat → Prop) (p : Nat) (cs : Array Value) : Prop :=
  Calls Tryz.prog 55 #[.pointer (some ⟨p, 0, none⟩)] W fun e W' => ∃ ty g, e = .returned (.tuple #[.iface ty (.pointer (some ⟨g, 0, none⟩)), .nilIface]) ∧ Ext S W W' ∧
    Calls Tryz.prog 56 #[.iface ty (.pointer (some ⟨g, 0, none⟩))] W' fun e W'' => e = .returned (.agg cs) ∧ Ext none_ W' W''

/-- Whatever packet of this tree they are given. -/
def Reads (t : T) (cs : Array Value) : Prop :=
  ∀ (W : World) (S : Nat → Prop) (p : Nat) (ea : Addr), ¬ S 1 → W.cell? ⟨1, 0, none⟩ = some (.iface 310 (.pointer (some ea))) → PkAt ValOk W S t p → DecBack W S p cs

set_option maxHeartbeats 2000000 in
set_option maxRecDepth 100000 in
theorem ctlRead_any (w : World) (ea : Addr) (t : T) (wire : List UInt8) (n : Nat) (hn : Hid (wire.length = n)) (hn2 : n ≤ 100000) (hd : t.deep ≤ 800) (hf : t.fine) (hw : Wire t wire) (hE : w.cell? ⟨1, 0, none⟩ = some (.iface 310 (.pointer (some ea))))
    (k num : Int) (kd ck tx : ByteArray) (crit : Bool) (HR : Reads t #[.int .i64 k, .string kd, .bool crit, .bool false, .int .i64 num, .int .i64 0, .int .i64 0, .string ck, .string tx, .string ⟨#[]⟩, .slice none 0 0, .slice none 0 0]) :
    Calls Tryz.prog 27 #[.string (strOf wire)] w fun e w' => e = .returned (.tuple #[.agg #[.int .i64 k, .string kd, .bool crit, .bool false, .int .i64 num, .int .i64 0, .int .i64 0, .string ck, .string tx, .string ⟨#[]⟩, .slice none 0 0, .slice none 0 0], .bool true, .string ⟨#[]⟩]) ∧ Ext none_ w w' := by
  have h1s : 1 < w.heap.size := by have := World.block_lt_of_cell? w ⟨1, 0, none⟩ hE; simpa using this
  have HE := Lib.hid hE
  have HRH := Lib.hid HR
  clear hE HR
  go_enter Tryz.func27, Tryz.ntmps27
  go_wp2_with fail
  have E0 := (Ext.refl none_ w).alloc (.cells #[.int .i64 0, .string ⟨#[]⟩, .bool false, .bool false, .int .i64 0, .int .i64 0, .int .i64 0, .string ⟨#[]⟩, .string ⟨#[]⟩, .string ⟨#[]⟩, .slice none 0 0, .slice none 0 0] 65)
  have hz0 := heap_new w (.cells #[.int .i64 0, .string ⟨#[]⟩, .bool false, .bool false, .int .i64 0, .int .i64 0, .int .i64 0, .string ⟨#[]⟩, .string ⟨#[]⟩, .string ⟨#[]⟩, .slice none 0 0, .slice none 0 0] 65 (0, 0))
  refine (read_any _ ea t wire n hn hn2 hd hf hw (by rw [E0.cell (p := ⟨1, 0, none⟩) h1s (fun h => h)]; exact HE.out)).mono ?_
  rintro e w1 ⟨p, rfl, hpk, E1⟩
  have E01 := E0.trans E1
  have hz1 := E1.get hz0 (fun h => h)
  have hpk2 : PkAt ValOk w1 (fun b => w.heap.size < b) t p := PkAt.frame (fun b hb _ => ⟨rfl, by simp at hb; omega⟩) _ _ hpk
  have H := Lib.hid (HRH.out w1 (fun b => w.heap.size < b) p ea (by omega) (by rw [E01.cell (p := ⟨1, 0, none⟩) h1s (fun h => h)]; exact HE.out) hpk2)
  clear hz0 hpk hpk2 E0 E1
  go_wp2_with fail
  refine H.out.mono ?_
  rintro e w2 ⟨ty, g, rfl, E2, HB⟩
  have hz2 := E2.get hz1 (by omega)
  have E02 : Ext none_ w w2 := E01.trans' E2 (fun i hi h => by omega)
  have HBH := Lib.hid HB
  clear HB hz1 E2 E01
  go_wp2_with fail
  refine HBH.out.mono ?_
  rintro e w3 ⟨rfl, E3⟩
  have hz := E3.get hz2 (fun h => h)
  have E03 := E02.trans E3
  clear hz2 E02 E3
  have c0 := Lib.cell_of_heap hz
  have f0 := Lib.frozen_of_heap hz
  go_wp2_with fail
  clear c0 f0
  have K := heap_set (heap_set (heap_set (heap_set (heap_set (heap_set (heap_set (heap_set (heap_set (heap_set (heap_set (heap_set hz (i := 0) (.int .i64 k)) (i := 1) (.string kd)) (i := 2) (.bool crit)) (i := 3) (.bool false)) (i := 4) (.int .i64 num)) (i := 5) (.int .i64 0)) (i := 6) (.int .i64 0)) (i := 7) (.string ck)) (i := 8) (.string tx)) (i := 9) (.string ⟨#[]⟩)) (i := 10) (.slice none 0 0)) (i := 11) (.slice none 0 0)
  have ck' := Lib.cell_of_heap K
  refine bodyPost_ret (v := .tuple #[.agg #[.int .i64 k, .string kd, .bool crit, .bool false, .int .i64 num, .int .i64 0, .int .i64 0, .string ck, .string tx, .string ⟨#[]⟩, .slice none 0 0, .slice none 0 0], .bool true, .string ⟨#[]⟩]) (by simp [results, Tryz.results27, go_sem, ck']) rfl ⟨rfl, ?_⟩
  repeat refine Ext.setAt ?_ (.inl (by omega)) _
  exact E03

end Go.Proofs.YtocjfcgailkfjaaGreatDoor
end

section
namespace Go.Proofs.YtocjfcgailkfjaaGreatDoor
open Go.RowKit

theorem ValOk.bool {d : List UInt8} {v : Value} (h : ValOk 0 1 d v) : v = .iface 4 (.bool (!(parseI d == 0))) := by
  rcases h with ⟨_, _, h⟩ | ⟨_, h, _⟩ | ⟨_, h, _⟩ | ⟨h, _⟩
  · exact h
  · omega
  · omega
  · exact absurd rfl h

/-- The criticality that is read. -/
def critOf : Option (List UInt8) → Bool
  | none => false
  | some b => !(parseI b == 0)

theorem nat1 : ∀ {l : List Nat}, l.length = 1 → ∃ a, l = [a]
  | [a], _ => ⟨a, rfl⟩
theorem nat2 : ∀ {l : List Nat}, l.length = 2 → ∃ a b, l = [a, b]
  | [a, b], _ => ⟨a, b, rfl⟩
theorem nat3 : ∀ {l : List Nat}, l.length = 3 → ∃ a b c, l = [a, b, c]
  | [a, b, c], _ => ⟨a, b, c, rfl⟩

theorem pk_octets {W : World} {S : Nat → Prop} {d : List UInt8} {p : Nat} (h : PkAt ValOk W S (.prim 0 4 d) p) : PkOwn W S p 0 0 4 (.iface 9 (.string (strOf d))) d [] := by
  unfold PkAt at h
  obtain ⟨val, k1, k2⟩ := h
  obtain rfl := k2.str
  exact k1
theorem pk_truth {W : World} {S : Nat → Prop} {d : List UInt8} {p : Nat} (h : PkAt ValOk W S (.prim 0 1 d) p) : PkOwn W S p 0 0 1 (.iface 4 (.bool (!(parseI d == 0)))) d [] := by
  unfold PkAt at h
  obtain ⟨val, k1, k2⟩ := h
  obtain rfl := k2.bool
  exact k1
theorem pk_kids {W : World} {S : Nat → Prop} {ts : List T} {p : Nat} (h : PkAt ValOk W S (.cons 0 16 ts) p) : ∃ ps, PkOwn W S p 0 32 16 .nilIface (T.encL ts) ps ∧ PkAtL ValOk W S ts ps := by
  unfold PkAt at h
  exact h

theorem pk_one {W : World} {S : Nat → Prop} {kd : List UInt8} {p : Nat} (h : PkAt ValOk W S (ctlC kd none none) p) :
    ∃ bs q0, PkOwn W S p 0 32 16 .nilIface bs [q0] ∧ PkOwn W S q0 0 0 4 (.iface 9 (.string (strOf kd))) kd [] := by
  obtain ⟨ps, h1, h2⟩ := pk_kids h
  obtain ⟨q0, rfl⟩ := nat1 (h2.length.trans rfl)
  have h2 : PkAtL ValOk W S [.prim 0 4 kd] [q0] := h2
  unfold PkAtL at h2
  exact ⟨_, q0, h1, pk_octets h2.1⟩
theorem pk_crit {W : World} {S : Nat → Prop} {kd cb : List UInt8} {p : Nat} (h : PkAt ValOk W S (ctlC kd (some cb) none) p) :
    ∃ bs q0 qb, PkOwn W S p 0 32 16 .nilIface bs [q0, qb] ∧ PkOwn W S q0 0 0 4 (.iface 9 (.string (strOf kd))) kd [] ∧ PkOwn W S qb 0 0 1 (.iface 4 (.bool (!(parseI cb == 0)))) cb [] := by
  obtain ⟨ps, h1, h2⟩ := pk_kids h
  obtain ⟨q0, qb, rfl⟩ := nat2 (h2.length.trans rfl)
  have h2 : PkAtL ValOk W S [.prim 0 4 kd, .prim 0 1 cb] [q0, qb] := h2
  unfold PkAtL at h2
  obtain ⟨a, b⟩ := h2
  unfold PkAtL at b
  exact ⟨_, q0, qb, h1, pk_octets a, pk_truth b.1⟩
theorem pk_val {W : World} {S : Nat → Prop} {kd vl : List UInt8} {p : Nat} (h : PkAt ValOk W S (ctlC kd none (some vl)) p) :
    ∃ bs q0 q1, PkOwn W S p 0 32 16 .nilIface bs [q0, q1] ∧ PkOwn W S q0 0 0 4 (.iface 9 (.string (strOf kd))) kd [] ∧ PkOwn W S q1 0 0 4 (.iface 9 (.string (strOf vl))) vl [] := by
  obtain ⟨ps, h1, h2⟩ := pk_kids h
  obtain ⟨q0, q1, rfl⟩ := nat2 (h2.length.trans rfl)
  have h2 : PkAtL ValOk W S [.prim 0 4 kd, .prim 0 4 vl] [q0, q1] := h2
  unfold PkAtL at h2
  obtain ⟨a, b⟩ := h2
  unfold PkAtL at b
  exact ⟨_, q0, q1, h1, pk_octets a, pk_octets b.1⟩
theorem pk_both {W : World} {S : Nat → Prop} {kd cb vl : List UInt8} {p : Nat} (h : PkAt ValOk W S (ctlC kd (some cb) (some vl)) p) :
    ∃ bs q0 qb q1, PkOwn W S p 0 32 16 .nilIface bs [q0, qb, q1] ∧ PkOwn W S q0 0 0 4 (.iface 9 (.string (strOf kd))) kd [] ∧ PkOwn W S qb 0 0 1 (.iface 4 (.bool (!(parseI cb == 0)))) cb [] ∧ PkOwn W S q1 0 0 4 (.iface 9 (.string (strOf vl))) vl [] := by
  obtain ⟨ps, h1, h2⟩ := pk_kids h
  obtain ⟨q0, qb, q1, rfl⟩ := nat3 (h2.length.trans rfl)
  have h2 : PkAtL ValOk W S [.prim 0 4 kd, .prim 0 1 cb, .prim 0 4 vl] [q0, qb, q1] := h2
  unfold PkAtL at h2
  obtain ⟨a, b⟩ := h2
  unfold PkAtL at b
  obtain ⟨b, c⟩ := b
  unfold PkAtL at c
  exact ⟨_, q0, qb, q1, h1, pk_octets a, pk_truth b, pk_octets c.1⟩

/-- From a control that nobody knows. -/
theorem dec_zero {W : World} {S : Nat → Prop} {p : Nat} {kd vl : List UInt8} {b : Bool} (h : Calls Tryz.prog 55 #[.pointer (some ⟨p, 0, none⟩)] W (Dec W S kd vl b)) : DecBack W S p (ctl12 kd b vl).toArray := by
  refine h.mono ?_
  rintro e W' ⟨g, rfl, hg, -, D⟩
  exact ⟨203, g, rfl, D.ext, backControl_any W' g kd vl b hg⟩

theorem reads0 (kd rest : List UInt8) (hk : Hid (kd = 49 :: 46 :: 50 :: 46 :: 51 :: rest)) (cb vl : Option (List UInt8)) : Reads (ctlC kd cb vl) (ctl12 kd (critOf cb) (vl.getD [])).toArray := by
  intro W S p ea hS hE h
  cases cb with
  | none =>
    cases vl with
    | none =>
      obtain ⟨bs, q0, h1, h2⟩ := pk_one h
      exact dec_zero (decode1 W S p q0 bs kd rest hk h1 h2)
    | some v =>
      obtain ⟨bs, q0, q1, h1, h2, h3⟩ := pk_val h
      exact dec_zero (decode2 W S p q0 q1 bs kd v rest hk h1 h2 h3)
  | some c =>
    cases vl with
    | none =>
      obtain ⟨bs, q0, qb, h1, h2, h3⟩ := pk_crit h
      exact dec_zero (decode2b W S p q0 qb _ c bs kd rest hk h1 h2 h3)
    | some v =>
      obtain ⟨bs, q0, qb, q1, h1, h2, h3, h4⟩ := pk_both h
      exact dec_zero (decode3 W S p q0 qb q1 _ c bs kd v rest hk h1 h2 h3 h4)

theorem reads5 (cb : Option (List UInt8)) : Reads (ctlC kd5 cb none) #[.int .i64 5, .string (strOf kd5), .bool (critOf cb), .bool false, .int .i64 0, .int .i64 0, .int .i64 0, .string ⟨#[]⟩, .string ⟨#[]⟩, .string ⟨#[]⟩, .slice none 0 0, .slice none 0 0] := by
  intro W S p ea hS hE h
  cases cb with
  | none =>
    obtain ⟨bs, q0, h1, h2⟩ := pk_one h
    refine (decode5_one W S p q0 bs kd5 (Lib.hid rfl) h1 h2).mono ?_
    rintro e W' ⟨g, rfl, hg, D⟩
    exact ⟨163, g, rfl, D.ext, back5_any W' g _ hg⟩
  | some c =>
    obtain ⟨bs, q0, qb, h1, h2, h3⟩ := pk_crit h
    refine (decode5_two W S p q0 qb _ c bs kd5 (Lib.hid rfl) h1 h2 h3).mono ?_
    rintro e W' ⟨g, rfl, hg, D⟩
    exact ⟨163, g, rfl, D.ext, back5_any W' g _ hg⟩

theorem reads8 : Reads (ctlC kd8 none none) #[.int .i64 8, .string (strOf kd8), .bool false, .bool false, .int .i64 0, .int .i64 0, .int .i64 0, .string ⟨#[]⟩, .string ⟨#[]⟩, .string ⟨#[]⟩, .slice none 0 0, .slice none 0 0] := by
  intro W S p ea hS hE h
  obtain ⟨bs, q0, h1, h2⟩ := pk_one h
  refine (decode8_one W S p q0 bs kd8 (Lib.hid rfl) h1 h2).mono ?_
  rintro e W' ⟨g, rfl, D⟩
  exact ⟨170, g, rfl, D.ext, back8_any W' g⟩
theorem reads9 : Reads (ctlC kd9 none none) #[.int .i64 9, .string (strOf kd9), .bool false, .bool false, .int .i64 0, .int .i64 0, .int .i64 0, .string ⟨#[]⟩, .string ⟨#[]⟩, .string ⟨#[]⟩, .slice none 0 0, .slice none 0 0] := by
  intro W S p ea hS hE h
  obtain ⟨bs, q0, h1, h2⟩ := pk_one h
  refine (decode9_one W S p q0 bs kd9 (Lib.hid rfl) h1 h2).mono ?_
  rintro e W' ⟨g, rfl, D⟩
  exact ⟨172, g, rfl, D.ext, back9_any W' g⟩
theorem reads10 : Reads (ctlC kd10 none none) #[.int .i64 10, .string (strOf kd10), .bool false, .bool false, .int .i64 0, .int .i64 0, .int .i64 0, .string ⟨#[]⟩, .string ⟨#[]⟩, .string ⟨#[]⟩, .slice none 0 0, .slice none 0 0] := by
  intro W S p ea hS hE h
  obtain ⟨bs, q0, h1, h2⟩ := pk_one h
  refine (decode10_one W S p q0 bs kd10 (Lib.hid rfl) h1 h2).mono ?_
  rintro e W' ⟨g, rfl, D⟩
  exact ⟨174, g, rfl, D.ext, back10_any W' g⟩

theorem reads1 (bs ck : List UInt8) (hb1 : 1 ≤ bs.length) (hb4 : bs.length ≤ 4) (hck : ck.length ≤ 40) : Reads (ctlC kd1 none (some (pageT bs ck).enc)) #[.int .i64 1, .string (strOf kd1), .bool false, .bool false, .int .i64 (numOf bs), .int .i64 0, .int .i64 0, .string (strOf ck), .string ⟨#[]⟩, .string ⟨#[]⟩, .slice none 0 0, .slice none 0 0] := by
  intro W S p ea hS hE h
  have h' : PkAt ValOk W (fun b => S b ∧ b < W.heap.size) (ctlC kd1 none (some (pageT bs ck).enc)) p := PkAt.frame (fun b hb hl => ⟨rfl, hb, hl⟩) _ _ h
  obtain ⟨bs0, q0, q1, h1, h2, h3⟩ := pk_val h'
  refine (decodeP_any W _ (Lib.hid fun b h => h.2) (fun h => hS h.1) ea hE p q0 q1 bs ck _ bs0 kd1 (Lib.hid rfl) (Lib.hid rfl) hb1 hb4 hck h1 h2 h3).mono ?_
  rintro e W' ⟨g, ca, cn, cc, rfl, hg, hcn, hB, E⟩
  exact ⟨151, g, rfl, E.mono fun i _ h => h.1, back1_any W' g (numOf bs) ca cn cc ck hg (by unfold numOf; omega) hcn hB⟩

end Go.Proofs.YtocjfcgailkfjaaGreatDoor
end

section
namespace Go.Proofs.YtocjfcgailkfjaaGreatDoor
open Go.RowKit

/-- A control that is written, in a small tree, and whose forms are all read as the same twelve cells. -/
def CtlW (v : Value) : Prop := ∀ W, Calls Tryz.prog 25 #[v] W fun e W' => ∃ (kt : List UInt8) (cb vl : Option (List UInt8)) (cr : Bool) (k num : Int) (kd ck tx : ByteArray) (crit : Bool), e = .returned (.tuple #[.string (strOf (ctlC kt cb vl).enc), .bool true]) ∧ CritB cr cb ∧ kt.length ≤ 40 ∧ (∀ v, vl = some v → v.length ≤ 80) ∧
  Reads (ctlC kt cb vl) #[.int .i64 k, .string kd, .bool crit, .bool false, .int .i64 num, .int .i64 0, .int .i64 0, .string ck, .string tx, .string ⟨#[]⟩, .slice none 0 0, .slice none 0 0] ∧ Ext none_ W W'

theorem strOf_data (s : ByteArray) : strOf s.data.toList = s := rfl

theorem written0 (tx : ByteArray) (cr : Bool) (a b : Option Addr) (c d : Nat) (ht : tx.size ≤ 40) : CtlW (.agg #[.int .i64 0, .string ⟨#[49, 46, 50, 46, 51, 46, 52]⟩, .bool cr, .bool false, .int .i64 0, .int .i64 0, .int .i64 0, .string ⟨#[]⟩, .string tx, .string ⟨#[]⟩, .slice a 0 c, .slice b 0 d]) := by
  intro W
  have hl : tx.data.toList.length ≤ 40 := by rw [Lib.size_eq] at ht; exact ht
  have ho : ∃ o : Option (List UInt8), Hid ((tx.data.toList = [] ∧ o = none) ∨ (tx.data.toList ≠ [] ∧ o = some tx.data.toList)) := by
    by_cases h : tx.data.toList = []
    · exact ⟨none, Lib.hid (.inl ⟨h, rfl⟩)⟩
    · exact ⟨_, Lib.hid (.inr ⟨h, rfl⟩)⟩
  obtain ⟨o, ho⟩ := ho
  refine (bytes0_any W [49, 46, 50, 46, 51, 46, 52] tx.data.toList cr (by decide) hl o ho a b c d).mono ?_
  rintro e W' ⟨cb, hcb, rfl, E⟩
  refine ⟨_, cb, o, cr, 0, 0, strOf [49, 46, 50, 46, 51, 46, 52], ⟨#[]⟩, strOf (o.getD []), critOf cb, rfl, hcb, by decide, fun v hv => ?_, reads0 _ [46, 52] (Lib.hid rfl) cb o, E⟩
  rcases ho.out with ⟨_, h⟩ | ⟨_, h⟩ <;> rw [h] at hv <;> cases hv
  omega
theorem written5 (cr : Bool) (a b : Option Addr) (c d : Nat) : CtlW (.agg #[.int .i64 5, .string ⟨#[]⟩, .bool cr, .bool false, .int .i64 0, .int .i64 0, .int .i64 0, .string ⟨#[]⟩, .string ⟨#[]⟩, .string ⟨#[]⟩, .slice a 0 c, .slice b 0 d]) := by
  intro W
  refine (bytes5_any W cr a b c d).mono ?_
  rintro e W' ⟨cb, hcb, rfl, E⟩
  exact ⟨_, cb, none, cr, 5, 0, _, _, _, _, rfl, hcb, by decide, fun v hv => (by cases hv), reads5 cb, E⟩
theorem written8 (a b : Option Addr) (c d : Nat) : CtlW (.agg #[.int .i64 8, .string ⟨#[]⟩, .bool false, .bool false, .int .i64 0, .int .i64 0, .int .i64 0, .string ⟨#[]⟩, .string ⟨#[]⟩, .string ⟨#[]⟩, .slice a 0 c, .slice b 0 d]) := by
  intro W
  refine (bytes8_any W a b c d).mono ?_
  rintro e W' ⟨cb, hcb, rfl, E⟩
  obtain rfl : cb = none := by
    rcases hcb with ⟨_, h⟩ | ⟨h, _⟩
    · exact h
    · cases h
  exact ⟨_, none, none, false, 8, 0, _, _, _, _, rfl, hcb, by decide, fun v hv => (by cases hv), reads8, E⟩
theorem written9 (a b : Option Addr) (c d : Nat) : CtlW (.agg #[.int .i64 9, .string ⟨#[]⟩, .bool false, .bool false, .int .i64 0, .int .i64 0, .int .i64 0, .string ⟨#[]⟩, .string ⟨#[]⟩, .string ⟨#[]⟩, .slice a 0 c, .slice b 0 d]) := by
  intro W
  refine (bytes9_any W a b c d).mono ?_
  rintro e W' ⟨cb, hcb, rfl, E⟩
  obtain rfl : cb = none := by
    rcases hcb with ⟨_, h⟩ | ⟨h, _⟩
    · exact h
    · cases h
  exact ⟨_, none, none, false, 9, 0, _, _, _, _, rfl, hcb, by decide, fun v hv => (by cases hv), reads9, E⟩
theorem written10 (a b : Option Addr) (c d : Nat) : CtlW (.agg #[.int .i64 10, .string ⟨#[]⟩, .bool false, .bool false, .int .i64 0, .int .i64 0, .int .i64 0, .string ⟨#[]⟩, .string ⟨#[]⟩, .string ⟨#[]⟩, .slice a 0 c, .slice b 0 d]) := by
  intro W
  refine (bytes10_any W a b c d).mono ?_
  rintro e W' ⟨cb, hcb, rfl, E⟩
  obtain rfl : cb = none := by
    rcases hcb with ⟨_, h⟩ | ⟨h, _⟩
    · exact h
    · cases h
  exact ⟨_, none, none, false, 10, 0, _, _, _, _, rfl, hcb, by decide, fun v hv => (by cases hv), reads10, E⟩
theorem written1 (n1 : Int) (h0 : 0 ≤ n1) (h1 : n1 < 2147483648) (ck : ByteArray) (hck : ck.size ≤ 40) (a b : Option Addr) (c d : Nat) : CtlW (.agg #[.int .i64 1, .string ⟨#[]⟩, .bool false, .bool false, .int .i64 n1, .int .i64 0, .int .i64 0, .string ck, .string ⟨#[]⟩, .string ⟨#[]⟩, .slice a 0 c, .slice b 0 d]) := by
  intro W
  obtain ⟨num, rfl⟩ := Int.eq_ofNat_of_zero_le h0
  have hl : ck.data.toList.length ≤ 40 := by rw [Lib.size_eq] at hck; exact hck
  refine (bytes1_any W num ck.data.toList (by omega) hl a b c d).mono ?_
  rintro e W' ⟨bs, ⟨hb1, hb4⟩, cb, hcb, rfl, E⟩
  obtain rfl : cb = none := by
    rcases hcb with ⟨_, h⟩ | ⟨h, _⟩
    · exact h
    · cases h
  refine ⟨_, none, _, false, 1, _, _, _, _, _, rfl, hcb, by decide, fun v hv => ?_, reads1 bs ck.data.toList hb1 hb4 hl, E⟩
  cases hv
  exact (page_good bs ck.data.toList hb1 hb4 hl).2.2.2.1

/-- ldapKnown's answer true says that the control is written. -/
theorem known_written (w : World) (k n1 n2 n3 : Int) (ty ck tx id : ByteArray) (cr fl : Bool) (a b : Option Addr) (kn inn c d : Nat) :
    Calls Tryz.prog 24 #[.agg #[.int .i64 k, .string ty, .bool cr, .bool fl, .int .i64 n1, .int .i64 n2, .int .i64 n3, .string ck, .string tx, .string id, .slice a kn c, .slice b inn d]] w fun e w' => ∃ y, e = .returned (.bool y) ∧ (y = true → CtlW (.agg #[.int .i64 k, .string ty, .bool cr, .bool fl, .int .i64 n1, .int .i64 n2, .int .i64 n3, .string ck, .string tx, .string id, .slice a kn c, .slice b inn d])) ∧ Ext none_ w w' := by
  by_cases h0 : k = 0
  · subst h0
    refine (known0_any w n1 n2 n3 ty ck tx id cr fl a b kn inn c d).mono ?_
    rintro e w' ⟨y, rfl, hy, E⟩
    refine ⟨y, rfl, fun e => ?_, E⟩
    obtain ⟨q1, q2, ⟨_, e1, e2, e3, e4, e5, e6, e7, e8, e9⟩, h1, h2, h3, h4⟩ := hy e
    subst q1 q2 e1 e3 e4 e5 e6 e7 e9
    exact written0 tx cr a b c d h3
  by_cases h1 : k = 1
  · subst h1
    refine (known1_any w n1 n2 n3 ty ck tx id cr fl a b kn inn c d).mono ?_
    rintro e w' ⟨y, rfl, hy, E⟩
    refine ⟨y, rfl, fun e => ?_, E⟩
    obtain ⟨q1, q2, ⟨_, e1, e2, e3, e4, e5, e6, e7, e8, e9⟩, h1, h2, h3, h4⟩ := hy e
    subst q1 q2 e1 e2 e3 e5 e6 e8 e9
    exact written1 n1 h1 h2 ck h4 a b c d
  by_cases h5 : k = 5
  · subst h5
    refine (known5_any w n1 n2 n3 ty ck tx id cr fl a b kn inn c d).mono ?_
    rintro e w' ⟨y, rfl, hy, E⟩
    refine ⟨y, rfl, fun e => ?_, E⟩
    obtain ⟨q1, q2, ⟨_, e1, e2, e3, e4, e5, e6, e7, e8, e9⟩, h1, h2, h3, h4⟩ := hy e
    subst q1 q2 e1 e3 e4 e5 e6 e7 e8 e9
    exact written5 cr a b c d
  by_cases h8 : k = 8
  · subst h8
    refine (known8_any w n1 n2 n3 ty ck tx id cr fl a b kn inn c d).mono ?_
    rintro e w' ⟨y, rfl, hy, E⟩
    refine ⟨y, rfl, fun e => ?_, E⟩
    obtain ⟨q1, q2, ⟨_, e1, e2, e3, e4, e5, e6, e7, e8, e9⟩, h1, h2, h3, h4⟩ := hy e
    subst q1 q2 e1 e2 e3 e4 e5 e6 e7 e8 e9
    exact written8 a b c d
  by_cases h9 : k = 9
  · subst h9
    refine (known9_any w n1 n2 n3 ty ck tx id cr fl a b kn inn c d).mono ?_
    rintro e w' ⟨y, rfl, hy, E⟩
    refine ⟨y, rfl, fun e => ?_, E⟩
    obtain ⟨q1, q2, ⟨_, e1, e2, e3, e4, e5, e6, e7, e8, e9⟩, h1, h2, h3, h4⟩ := hy e
    subst q1 q2 e1 e2 e3 e4 e5 e6 e7 e8 e9
    exact written9 a b c d
  by_cases h10 : k = 10
  · subst h10
    refine (known10_any w n1 n2 n3 ty ck tx id cr fl a b kn inn c d).mono ?_
    rintro e w' ⟨y, rfl, hy, E⟩
    refine ⟨y, rfl, fun e => ?_, E⟩
    obtain ⟨q1, q2, ⟨_, e1, e2, e3, e4, e5, e6, e7, e8, e9⟩, h1, h2, h3, h4⟩ := hy e
    subst q1 q2 e1 e2 e3 e4 e5 e6 e7 e8 e9
    exact written10 a b c d
  refine (known_other w k n1 n2 n3 ty ck tx id cr fl a b kn inn c d h0 h1 h5 h8 h9 h10).mono ?_
  rintro e w' ⟨rfl, E⟩
  exact ⟨false, rfl, fun h => (by cases h), E⟩

end Go.Proofs.YtocjfcgailkfjaaGreatDoor
end
