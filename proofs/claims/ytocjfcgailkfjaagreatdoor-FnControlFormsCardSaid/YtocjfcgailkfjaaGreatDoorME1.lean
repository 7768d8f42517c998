/- Small functions: io.LimitReader, bytes.NewReader, Reader.Len, DecodeString, ParseInt64. DecodeString, ParseInt64, isEOCPacket. Trees of BER, their forms on the wire, and packets in memory that are such trees. -/
import Derived.Test.YtocjfcgailkfjaaGreatDoorMC

set_option linter.unusedVariables false
set_option linter.unusedSimpArgs false
set_option linter.unusedSectionVars false

section
namespace Go.Proofs.YtocjfcgailkfjaaGreatDoor
open Go.RowKit

set_option maxHeartbeats 400000 in
theorem limitReader_any (w : World) (t : TypeId) (p : Value) (hp : p = .pointer none ∨ ∃ a, p = .pointer (some a)) (n : Int) :
    Calls Tryz.prog 138 #[.iface t p, .int .i64 n] w fun e w' => e = .returned (.iface 360 (.pointer (some ⟨w.heap.size, 0, none⟩))) ∧ w' = w.alloc (.cells #[.iface t p, .int .i64 n] 362) := by
  rcases hp with rfl | ⟨a, rfl⟩ <;>
  · go_enter Tryz.func138, Tryz.ntmps138
    go_wp2
    go_ret
    exact ⟨rfl, rfl⟩

set_option maxHeartbeats 400000 in
theorem newReader_any (w : World) (a : Option Addr) (n c : Nat) :
    Calls Tryz.prog 60 #[.slice a n c] w fun e w' => e = .returned (.pointer (some ⟨w.heap.size, 0, none⟩)) ∧ w' = w.alloc (.cells #[.slice a n c, .int .i64 0, .int .i64 (-1)] 282) := by
  go_enter Tryz.func60, Tryz.ntmps60
  go_wp2
  go_ret
  exact ⟨rfl, rfl⟩

/-- The reader stands at its end. -/
theorem readerLen_end (w : World) (r : Nat) (a : Option Addr) (n c : Nat) (i : Nat) (x : Value) (h : w.heap[r]? = some (.cells #[.slice a n c, .int .i64 i, x] 282 (0, 0))) (hi : n ≤ i) (hi2 : i ≤ 9223372036854775807) :
    Calls Tryz.prog 63 #[.pointer (some ⟨r, 0, none⟩)] w fun e w' => e = .returned (.int .i64 0) ∧ Same w w' := by
  have c0 := Lib.cell_of_heap h
  go_enter Tryz.func63, Tryz.ntmps63
  go_wp2
  go_quiet (fail)
  go_wp2
  all_goals first
    | (exfalso; omega)
    | (go_ret; exact ⟨rfl, Same.of _⟩)
    | skip
  all_goals go_outline

end Go.Proofs.YtocjfcgailkfjaaGreatDoor
end

section
namespace Go.Proofs.YtocjfcgailkfjaaGreatDoor
open Go.RowKit

/-- The string of bytes. -/
def strOf (l : List UInt8) : ByteArray := ⟨l.toArray⟩

set_option maxHeartbeats 400000 in
theorem decodeString_any (w : World) (g o c : Nat) (l : List UInt8) (hB : BytesAt w g o l) :
    Calls Tryz.prog 100 #[.slice (some ⟨g, o, none⟩) l.length c] w fun e w' => e = .returned (.string (strOf l)) ∧ w' = w := by
  have hs : (convert 26 9 (.slice (some ⟨g, o, none⟩) l.length c)).run Tryz.prog w = .ok (.string (strOf l)) w := by
    refine run_convert_bytes_back w 26 9 5 ⟨g, o, none⟩ c l Tryz.underlying26 Tryz.underlying5 Tryz.underlying9 fun j hj => ?_
    rw [Lib.addr_add]; exact hB.cell (List.getElem?_eq_getElem hj)
  go_enter Tryz.func100, Tryz.ntmps100
  go_wp2
  go_ret
  exact ⟨rfl, rfl⟩

/-- As ParseInt64 reckons. -/
def accI (l : List UInt8) : Int := l.foldl (fun a x => bits .or .i64 (wrap64 (a * 256)) (wrap64 ((x.toNat : Nat) : Int))) 0
theorem accI_snoc (l : List UInt8) (x : UInt8) : accI (l ++ [x]) = bits .or .i64 (wrap64 (accI l * 256)) (wrap64 ((x.toNat : Nat) : Int)) := by simp [accI]

/-- What ParseInt64 gives. -/
def parseI (l : List UInt8) : Int := wrap64 (accI l * 2 ^ (64 - l.length * 8)) / 2 ^ (64 - l.length * 8)

set_option maxHeartbeats 400000 in
set_option maxRecDepth 100000 in
theorem parseInt_any (w : World) (g o c : Nat) (l : List UInt8) (n : Nat) (hn : Hid (l.length = n)) (h8 : n ≤ 8) (hB : BytesAt w g o l) :
    Calls Tryz.prog 99 #[.slice (some ⟨g, o, none⟩) n c] w fun e w' => e = .returned (.tuple #[.int .i64 (parseI l), .nilIface]) ∧ w' = w := by
  go_enter Tryz.func99, Tryz.ntmps99
  go_wp2_with fail
  go_loopw [2, 4] (fun v i W => ∃ j : Nat, j ≤ n ∧ v = .int .i64 (accI (l.take j)) ∧ i = .int .i64 j ∧ W = w) (fun _ i _ => n - (intOf i).toNat)
  case atStart => exact ⟨0, by omega, rfl, rfl, rfl⟩
  case round =>
    obtain ⟨j, hj, rfl, rfl, rfl⟩ := hrel
    by_cases hlt : j < n
    · have hlti : (j : Int) < (n : Int) := by omega
      obtain ⟨z, hz⟩ : ∃ z, l[j]? = some z := ⟨l[j]'(by have := hn.out; omega), List.getElem?_eq_getElem (by have := hn.out; omega)⟩
      have hcell := hB.cell hz
      have htk : accI (l.take (j + 1)) = bits .or .i64 (wrap64 (accI (l.take j) * 256)) (wrap64 ((z.toNat : Nat) : Int)) := by
        rw [← accI_snoc, List.take_add_one, hz]; rfl
      have Htk := Lib.hid htk
      clear htk hz
      go_wp2_with fail
      go_roundw
      case rel =>
        exact ⟨j + 1, by omega, by rw [Htk.out], by go_num, trivial⟩
      case measure => simp [intOf]; omega
    · have hge : ¬ (j : Int) < (n : Int) := by omega
      obtain rfl : j = n := by omega
      go_wp2_with fail
      go_ret2
      have htk : l.take j = l := List.take_of_length_le (by have := hn.out; omega)
      rw [htk]
      exact ⟨by unfold parseI; rw [hn.out]; rfl, rfl⟩

/-- One byte. -/
theorem parseI_one : ∀ x : Fin 256, parseI [UInt8.ofNat x.val] = if x.val < 128 then (x.val : Int) else (x.val : Int) - 256 := by decide +kernel

set_option maxHeartbeats 800000 in
set_option maxRecDepth 100000 in
theorem isEOC_no (w : World) (p cc bt tag d : Nat) (val bv ch : Value) (ds : ByteArray) (h : PkBlk w p cc bt tag val bv d ch ds) (hne : Hid (tag ≠ 0 ∨ cc ≠ 0)) (htg : tag < 31) :
    Calls Tryz.prog 136 #[.pointer (some ⟨p, 0, none⟩)] w fun e w' => e = .returned (.bool false) ∧ w' = w := by
  have c0 := Lib.cell_of_heap h
  go_enter Tryz.func136, Tryz.ntmps136
  by_cases ht : tag = 0
  · have hcc : cc ≠ 0 := hne.out.elim (fun h => absurd ht h) id
    subst ht
    have hc : ((cc : Int) == 0) = false := by simp; omega
    go_wp2_with fail
    go_ret
    exact ⟨rfl, rfl⟩
  · have ht' : ((tag : Int) == 0) = false := by simp; omega
    go_wp2_with fail
    go_ret
    exact ⟨rfl, rfl⟩

set_option maxHeartbeats 800000 in
set_option maxRecDepth 100000 in
theorem isEOC_yes (w : World) (p d : Nat) (val : Value) (a b : Option Addr) (c1 c2 : Nat) (ds : ByteArray) (h : PkBlk w p 0 0 0 val (.slice a 0 c1) d (.slice b 0 c2) ds) :
    Calls Tryz.prog 136 #[.pointer (some ⟨p, 0, none⟩)] w fun e w' => e = .returned (.bool true) ∧ w' = w := by
  have c0 := Lib.cell_of_heap h
  go_enter Tryz.func136, Tryz.ntmps136
  go_wp2_with fail
  go_ret
  exact ⟨rfl, rfl⟩

end Go.Proofs.YtocjfcgailkfjaaGreatDoor
end

section
namespace Go.Proofs.YtocjfcgailkfjaaGreatDoor
open Go.RowKit

inductive T where
  | prim (cls tag : Nat) (data : List UInt8)
  | cons (cls tag : Nat) (kids : List T)

mutual
/-- The bytes that Packet.Bytes writes. -/
def T.enc : T → List UInt8
  | .prim cls tag data => encOf (cls * 64) 0 tag data
  | .cons cls tag kids => encOf (cls * 64) 32 tag (T.encL kids)
def T.encL : List T → List UInt8
  | [] => []
  | t :: ts => t.enc ++ T.encL ts
end

mutual
def T.deep : T → Nat
  | .prim _ _ _ => 0
  | .cons _ _ kids => T.deepL kids + 1
def T.deepL : List T → Nat
  | [] => 0
  | t :: ts => max t.deep (T.deepL ts)
end

/-- The contents of a node. -/
def T.body : T → List UInt8
  | .prim _ _ data => data
  | .cons _ _ kids => T.encL kids
def T.cls : T → Nat
  | .prim c _ _ => c
  | .cons c _ _ => c
def T.tag : T → Nat
  | .prim _ t _ => t
  | .cons _ t _ => t
def T.bt : T → Nat
  | .prim _ _ _ => 0
  | .cons _ _ _ => 32

theorem T.enc_eq (t : T) : t.enc = encOf (t.cls * 64) t.bt t.tag t.body := by cases t <;> simp [T.enc, T.cls, T.bt, T.tag, T.body]

mutual
/-- The trees that are read here. -/
def T.fine : T → Prop
  | .prim cls tag data => cls ≤ 3 ∧ tag < 31 ∧ data.length ≤ 480 ∧ (cls = 0 → ((tag = 1 ∨ tag = 2 ∨ tag = 10) ∧ 1 ≤ data.length ∧ data.length ≤ 8) ∨ tag = 4)
  | .cons cls tag kids => cls ≤ 3 ∧ tag < 31 ∧ (tag ≠ 0 ∨ cls ≠ 0) ∧ (T.encL kids).length ≤ 60000 ∧ kids.length ≤ 60000 ∧ T.fineL kids
def T.fineL : List T → Prop
  | [] => True
  | t :: ts => t.fine ∧ T.fineL ts
end

mutual
inductive Wire : T → List UInt8 → Prop
  | prim (cls tag : Nat) (data lf : List UInt8) (x : UInt8) (hx : x.toNat = cls * 64 + tag) (hl : LenForm (data.length : Nat) lf) : Wire (.prim cls tag data) (x :: (lf ++ data))
  | definite (cls tag : Nat) (kids : List T) (body lf : List UInt8) (x : UInt8) (hx : x.toNat = cls * 64 + 32 + tag) (hk : WireL kids body) (hb : body.length ≤ 60000) (hl : LenForm (body.length : Nat) lf) : Wire (.cons cls tag kids) (x :: (lf ++ body))
  | indefinite (cls tag : Nat) (kids : List T) (body : List UInt8) (x : UInt8) (hx : x.toNat = cls * 64 + 32 + tag) (hk : WireL kids body) (hb : body.length ≤ 60000) : Wire (.cons cls tag kids) (x :: ([128] ++ (body ++ [0, 0])))
inductive WireL : List T → List UInt8 → Prop
  | nil : WireL [] []
  | cons (t : T) (ts : List T) (a b : List UInt8) (h : Wire t a) (hs : WireL ts b) : WireL (t :: ts) (a ++ b)
end

theorem Wire.ne {t : T} {a : List UInt8} (h : Wire t a) : a ≠ [] := by cases h <;> simp
theorem Wire.pos {t : T} {a : List UInt8} (h : Wire t a) : 0 < a.length := List.length_pos_iff.2 h.ne

/-- What a packet that was read holds as its value. -/
def ValOk (cls tag : Nat) (data : List UInt8) (v : Value) : Prop :=
  (cls = 0 ∧ tag = 1 ∧ v = .iface 4 (.bool (!(parseI data == 0)))) ∨
  (cls = 0 ∧ (tag = 2 ∨ tag = 10) ∧ v = .iface 2 (.int .i64 (parseI data))) ∨
  (cls = 0 ∧ tag = 4 ∧ v = .iface 9 (.string (strOf data))) ∨
  (cls ≠ 0 ∧ v = .nilIface)

/-- A slice value. -/
def IsSl (v : Value) : Prop := ∃ a n c, v = .slice a n c
/-- A packet's own blocks, all of them within S. -/
def PkOwn (w : World) (S : Nat → Prop) (p cc bt tag : Nat) (val : Value) (bs : List UInt8) (ps : List Nat) : Prop :=
  ∃ d row bv g ch ds, PkBlk w p cc bt tag val bv d ch ds ∧ BufAt w d row bs ∧ ChAt w g ch ps ∧ (g ≠ p ∧ p ≠ d ∧ g ≠ d ∧ row ≠ some p ∧ row ≠ some g) ∧ S p ∧ S d ∧ S g ∧ (∀ k, row = some k → S k) ∧ IsSl bv

mutual
/-- A tree of packets at p. -/
def PkAt (V : Nat → Nat → List UInt8 → Value → Prop) (w : World) (S : Nat → Prop) : T → Nat → Prop
  | .prim cls tag data, p => ∃ val, PkOwn w S p (cls * 64) 0 tag val data [] ∧ V cls tag data val
  | .cons cls tag kids, p => ∃ ps, PkOwn w S p (cls * 64) 32 tag .nilIface (T.encL kids) ps ∧ PkAtL V w S kids ps
def PkAtL (V : Nat → Nat → List UInt8 → Value → Prop) (w : World) (S : Nat → Prop) : List T → List Nat → Prop
  | [], [] => True
  | t :: ts, p :: ps => PkAt V w S t p ∧ PkAtL V w S ts ps
  | _, _ => False
end

theorem PkOwn.frame {w w' : World} {S S' : Nat → Prop} {p cc bt tag : Nat} {val : Value} {bs : List UInt8} {ps : List Nat} (h : PkOwn w S p cc bt tag val bs ps)
    (hf : ∀ b, S b → b < w.heap.size → w'.heap[b]? = w.heap[b]? ∧ S' b) : PkOwn w' S' p cc bt tag val bs ps := by
  obtain ⟨d, row, bv, g, ch, ds, h1, h2, h3, hd, s1, s2, s3, s4, s5⟩ := h
  have l1 := lt_of_block h1
  have l2 := h2.lt
  have l3 := h3.lt
  refine ⟨d, row, bv, g, ch, ds, (hf p s1 l1).1.trans h1, ?_, h3.of_heap (hf g s3 l3).1, hd, (hf p s1 l1).2, (hf d s2 l2.1).2, (hf g s3 l3).2, fun k hk => (hf k (s4 k hk) (l2.2 k hk).1).2, s5⟩
  obtain ⟨lr, ⟨rfl, rfl, h⟩ | ⟨k, cap, cur, rfl, hgd, h, hg, r⟩⟩ := h2
  · exact ⟨lr, .inl ⟨rfl, rfl, (hf d s2 l2.1).1.trans h⟩⟩
  · exact ⟨lr, .inr ⟨k, cap, cur, rfl, hgd, (hf d s2 l2.1).1.trans h, (hf k (s4 k rfl) (l2.2 k rfl).1).1.trans hg, r⟩⟩

mutual
theorem PkAt.frame {V : Nat → Nat → List UInt8 → Value → Prop} {w w' : World} {S S' : Nat → Prop} (hf : ∀ b, S b → b < w.heap.size → w'.heap[b]? = w.heap[b]? ∧ S' b) : ∀ (t : T) (p : Nat), PkAt V w S t p → PkAt V w' S' t p
  | .prim cls tag data, p, h => by
    unfold PkAt at h ⊢
    obtain ⟨val, h1, h2⟩ := h
    exact ⟨val, h1.frame hf, h2⟩
  | .cons cls tag kids, p, h => by
    unfold PkAt at h ⊢
    obtain ⟨ps, h1, h2⟩ := h
    exact ⟨ps, h1.frame hf, PkAtL.frame hf kids ps h2⟩
theorem PkAtL.frame {V : Nat → Nat → List UInt8 → Value → Prop} {w w' : World} {S S' : Nat → Prop} (hf : ∀ b, S b → b < w.heap.size → w'.heap[b]? = w.heap[b]? ∧ S' b) : ∀ (ts : List T) (ps : List Nat), PkAtL V w S ts ps → PkAtL V w' S' ts ps
  | [], [], _ => by unfold PkAtL; trivial
  | t :: ts, p :: ps, h => by
    unfold PkAtL at h ⊢
    exact ⟨PkAt.frame hf t p h.1, PkAtL.frame hf ts ps h.2⟩
  | [], _ :: _, h => by unfold PkAtL at h; exact h.elim
  | _ :: _, [], h => by unfold PkAtL at h; exact h.elim
end

theorem PkAtL.snoc {V : Nat → Nat → List UInt8 → Value → Prop} {w : World} {S : Nat → Prop} {t : T} {p : Nat} (hp : PkAt V w S t p) : ∀ (ts : List T) (ps : List Nat), PkAtL V w S ts ps → PkAtL V w S (ts ++ [t]) (ps ++ [p])
  | [], [], _ => by simp [PkAtL, hp]
  | a :: ts, b :: ps, h => by
    unfold PkAtL at h
    simp only [List.cons_append, PkAtL]
    exact ⟨h.1, PkAtL.snoc hp ts ps h.2⟩
  | [], _ :: _, h => by unfold PkAtL at h; exact h.elim
  | _ :: _, [], h => by unfold PkAtL at h; exact h.elim

theorem PkAtL.length {V : Nat → Nat → List UInt8 → Value → Prop} {w : World} {S : Nat → Prop} : ∀ (ts : List T) (ps : List Nat), PkAtL V w S ts ps → ps.length = ts.length
  | [], [], _ => rfl
  | a :: ts, b :: ps, h => by
    unfold PkAtL at h
    simp [PkAtL.length ts ps h.2]
  | [], _ :: _, h => by unfold PkAtL at h; exact h.elim
  | _ :: _, [], h => by unfold PkAtL at h; exact h.elim

theorem T.encL_append : ∀ (a b : List T), T.encL (a ++ b) = T.encL a ++ T.encL b
  | [], b => by simp [T.encL]
  | t :: a, b => by simp [T.encL, T.encL_append a b]

/-- A packet is one of its tree's node. -/
theorem PkAt.own {V : Nat → Nat → List UInt8 → Value → Prop} {w : World} {S : Nat → Prop} {t : T} {p : Nat} (h : PkAt V w S t p) : ∃ val ps, PkOwn w S p (t.cls * 64) t.bt t.tag val t.body ps := by
  cases t with
  | prim cls tag data => unfold PkAt at h; obtain ⟨val, h1, _⟩ := h; exact ⟨val, _, h1⟩
  | cons cls tag kids => unfold PkAt at h; obtain ⟨ps, h1, _⟩ := h; exact ⟨_, ps, h1⟩

theorem T.fine.facts {t : T} (h : t.fine) : t.cls ≤ 3 ∧ t.tag < 31 ∧ t.body.length < 65536 ∧ (t.bt = 0 ∨ t.bt = 32) ∧ (t.tag ≠ 0 ∨ t.cls ≠ 0) := by
  cases t with
  | prim cls tag data =>
    unfold T.fine at h
    obtain ⟨h1, h2, h3, h4⟩ := h
    refine ⟨h1, h2, by simp [T.body]; omega, .inl rfl, ?_⟩
    by_cases hc : cls = 0
    · refine .inl ?_
      rcases h4 hc with ⟨h, _⟩ | h <;> simp only [T.tag] <;> omega
    · exact .inr hc
  | cons cls tag kids =>
    unfold T.fine at h
    obtain ⟨h1, h2, h3, h4, _⟩ := h
    exact ⟨h1, h2, by simp only [T.body]; omega, .inr rfl, h3⟩

end Go.Proofs.YtocjfcgailkfjaaGreatDoor
end
