/- zzFits12, zzFits13, zzFits14: a control's size test. int64Length and encodeInteger. ber.Encode, NewString, NewBoolean, NewInteger, AppendChild over packets' own blocks. NewBoolean and NewInteger. AppendChild over packets' own blocks. -/
import Derived.Test.YtocjfcgailkfjaaGreatDoorMH1
import Derived.Test.YtocjfcgailkfjaaGreatDoorME2
import Derived.Test.YtocjfcgailkfjaaGreatDoorMJ1
import Derived.Test.YtocjfcgailkfjaaGreatDoorME3
import Derived.BigRegion

set_option linter.unusedVariables false
set_option linter.unusedSimpArgs false
set_option linter.unusedSectionVars false

section
namespace Go.Proofs.YtocjfcgailkfjaaGreatDoor
open Go.RowKit

/-- A row of sort keys. -/
def KeyRow (w : World) (a : Option Addr) (n : Nat) (l : List (Bool × List UInt8 × List UInt8)) : Prop :=
  l.length = n ∧ (l = [] ∨ ∃ g o, a = some ⟨g, o, none⟩ ∧ g < w.heap.size ∧ ∀ (j : Nat) x, l[j]? = some x → w.cell? ⟨g, o + j * 3, none⟩ = some (.bool x.1) ∧ w.cell? ⟨g, o + j * 3 + 1, none⟩ = some (.string (strOf x.2.1)) ∧ w.cell? ⟨g, o + j * 3 + 2, none⟩ = some (.string (strOf x.2.2)))
theorem KeyRow.ext {w w' : World} {a : Option Addr} {n : Nat} {l : List (Bool × List UInt8 × List UInt8)} (h : KeyRow w a n l) (e : Ext none_ w w') : KeyRow w' a n l := by
  obtain ⟨h1, h2⟩ := h
  refine ⟨h1, h2.imp (fun x => x) (fun ⟨g, o, e1, e2, e3⟩ => ⟨g, o, e1, Nat.lt_of_lt_of_le e2 e.size, fun j s hj => ?_⟩)⟩
  obtain ⟨k1, k2, k3⟩ := e3 j s hj
  refine ⟨?_, ?_, ?_⟩
  all_goals (rw [e.cell (p := ⟨g, _, none⟩) e2 (fun h => h)]; assumption)

set_option maxHeartbeats 400000 in
set_option maxRecDepth 100000 in
theorem zzFits14_any (w : World) (c : Bool) (s t : ByteArray) :
    Calls Tryz.prog 71 #[.agg #[.bool c, .string s, .string t]] w (SomeB w) := by
  have E1 := (Ext.refl none_ w).alloc (.cells #[.bool c, .string s, .string t] 116)
  go_enter Tryz.func71, Tryz.ntmps71
  go_wp2_with fail
  all_goals
    go_ret
    exact ⟨⟨_, rfl⟩, E1⟩

set_option maxHeartbeats 400000 in
set_option maxRecDepth 100000 in
theorem zzFits13_any (w : World) (a : Option Addr) (n c : Nat) (l : List (Bool × List UInt8 × List UInt8)) (h : KeyRow w a n l) (hn : n ≤ 9223372036854775807) :
    Calls Tryz.prog 51 #[.slice a n c] w (SomeB w) := by
  obtain ⟨hln, hl⟩ := h
  have HN := Lib.hid hln
  clear hln
  go_enter Tryz.func51, Tryz.ntmps51
  go_wp2_with fail
  · go_ret
    exact ⟨⟨_, rfl⟩, Ext.refl _ _⟩
  · go_loopw [4, 10] (fun _ v10 W => ∃ j, j ≤ n ∧ v10 = .int .i64 (j : Nat) ∧ Ext none_ w W) (fun _ v10 _ => n - (intOf v10).toNat)
    case atStart => exact ⟨0, by omega, rfl, Ext.refl _ _⟩
    case round =>
      obtain ⟨j, hj, rfl, hE⟩ := hrel
      by_cases hlt : j < n
      · have hji : (j : Int) < (n : Int) := by omega
        obtain ⟨x, hx⟩ : ∃ x, l[j]? = some x := ⟨l[j]'(by have := HN.out; omega), List.getElem?_eq_getElem _⟩
        obtain ⟨g, o, rfl, hgl, hcells⟩ := hl.resolve_left (fun e => by rw [e] at hx; simp at hx)
        obtain ⟨k1, k2, k3⟩ := hcells j x hx
        have r1 : wr.cell? ⟨g, o + j * 3, none⟩ = some (.bool x.1) := by rw [hE.cell (p := ⟨g, _, none⟩) hgl (fun h => h)]; exact k1
        have r2 : wr.cell? ⟨g, o + j * 3 + 1, none⟩ = some (.string (strOf x.2.1)) := by rw [hE.cell (p := ⟨g, _, none⟩) hgl (fun h => h)]; exact k2
        have r3 : wr.cell? ⟨g, o + j * 3 + 2, none⟩ = some (.string (strOf x.2.2)) := by rw [hE.cell (p := ⟨g, _, none⟩) hgl (fun h => h)]; exact k3
        have E1 := (Ext.refl none_ wr).alloc (.cells #[.bool x.1, .string (strOf x.2.1), .string (strOf x.2.2)] 116)
        clear hx hcells k1 k2 k3
        go_wp2_with fail
        refine (zzFits14_any _ _ _ _).mono ?_
        rintro e w1 ⟨⟨b, rfl⟩, E2⟩
        have E3 := (hE.trans E1).trans E2
        cases b
        · go_wp2_with fail
          go_ret
          exact ⟨⟨_, rfl⟩, E3⟩
        · go_wp2_with fail
          go_roundw
          case rel => exact ⟨j + 1, by omega, by go_num, E3⟩
          case measure => simp [intOf]; omega
      · have hji : ¬ (j : Int) < (n : Int) := by omega
        go_wp2_with fail
        go_ret
        exact ⟨⟨_, rfl⟩, hE⟩

set_option maxHeartbeats 800000 in
set_option maxRecDepth 100000 in
theorem zzFits12_any (w : World) (k n1 n2 n3 : Int) (ty ck tx id : ByteArray) (cr fl : Bool) (ka ia : Option Addr) (kn kc inn ic : Nat) (lk : List (Bool × List UInt8 × List UInt8)) (li : List (List UInt8)) (hk : KeyRow w ka kn lk) (hi : StrRow w ia inn li) (b1 : kn ≤ 9223372036854775807) (b2 : inn ≤ 9223372036854775807) :
    Calls Tryz.prog 23 #[.agg #[.int .i64 k, .string ty, .bool cr, .bool fl, .int .i64 n1, .int .i64 n2, .int .i64 n3, .string ck, .string tx, .string id, .slice ka kn kc, .slice ia inn ic]] w (SomeB w) := by
  have E1 := (Ext.refl none_ w).alloc (.cells #[.int .i64 k, .string ty, .bool cr, .bool fl, .int .i64 n1, .int .i64 n2, .int .i64 n3, .string ck, .string tx, .string id, .slice ka kn kc, .slice ia inn ic] 65)
  have hb := heap_new w (.cells #[.int .i64 k, .string ty, .bool cr, .bool fl, .int .i64 n1, .int .i64 n2, .int .i64 n3, .string ck, .string tx, .string id, .slice ka kn kc, .slice ia inn ic] 65 (0, 0))
  have H1 := Lib.hid (zzFits13_any _ ka kn kc lk (hk.ext E1) b1)
  have HI := Lib.hid hi
  have HB := Lib.hid hb
  clear hk hi hb
  go_enter Tryz.func23, Tryz.ntmps23
  go_wp2_with fail
  all_goals
    first
      | (go_ret; exact ⟨⟨_, rfl⟩, E1⟩)
      | (refine H1.out.mono ?_
         rintro e w1 ⟨⟨b, rfl⟩, E2⟩
         have E12 := E1.trans E2
         have cb := Lib.cell_of_heap (E2.get HB.out (fun h => h))
         cases b
         · go_wp2_with fail
           go_ret
           exact ⟨⟨_, rfl⟩, E12⟩
         · go_wp2_with fail
           refine (zzFits2_any _ ia inn ic li (Ext.str E12 HI.out) b2).mono ?_
           rintro e w2 ⟨⟨b, rfl⟩, rfl⟩
           cases b
           all_goals
             go_wp2_with fail
             go_ret
             exact ⟨⟨_, rfl⟩, E12⟩)

end Go.Proofs.YtocjfcgailkfjaaGreatDoor
end

section
namespace Go.Proofs.YtocjfcgailkfjaaGreatDoor
open Go.RowKit

theorem shr8 (i : Nat) (h : i < 2147483648) : IntKind.i64.wrap ((i : Int) / 256) = ((i / 256 : Nat) : Int) := by
  rw [IntWalk.i64_in _ (by omega)]; omega

set_option maxHeartbeats 400000 in
set_option maxRecDepth 100000 in
theorem int64Length_any (w : World) (n : Nat) (hn : n < 2147483648) :
    Calls Tryz.prog 215 #[.int .i64 n] w fun e w' => ∃ k : Nat, e = .returned (.int .i64 k) ∧ (1 ≤ k ∧ k ≤ 4 ∧ (n ≤ 127 → k = 1)) ∧ w = w' := by
  go_enter Tryz.func215, Tryz.ntmps215
  go_wp2_with fail
  go_loop [0, 2] (fun v0 v2 => ∃ k i : Nat, v0 = .int .i64 i ∧ v2 = .int .i64 k ∧ ((k = 1 ∧ i = n) ∨ (k = 2 ∧ i < 8388608 ∧ 127 < n) ∨ (k = 3 ∧ i < 32768 ∧ 127 < n) ∨ (k = 4 ∧ i < 128 ∧ 127 < n))) (fun v0 _ => (intOf v0).toNat)
  case atStart => exact ⟨1, n, rfl, rfl, .inl ⟨rfl, rfl⟩⟩
  case round =>
    obtain ⟨k, i, rfl, rfl, h⟩ := hrel
    have hi : i < 2147483648 := by omega
    have hs := shr8 i hi
    by_cases hlt : 127 < i
    · have hli : (127 : Int) < (i : Int) := by omega
      go_wp2_with fail
      go_round
      case rel => exact ⟨k + 1, i / 256, by go_num, by go_num, by omega⟩
      case measure => simp [intOf]; omega
    · have hli : ¬ (127 : Int) < (i : Int) := by omega
      have hli2 : ¬ (i : Int) < -128 := by omega
      go_wp2_with fail
      go_loop [0, 2] (fun v0 v2 => v0 = .int .i64 i ∧ v2 = .int .i64 k) (fun _ _ => 0)
      case atStart => exact ⟨rfl, rfl⟩
      case round =>
        obtain ⟨rfl, rfl⟩ := hrel
        go_wp2_with fail
        go_ret
        exact ⟨k, rfl, by omega, rfl⟩

/-- A row of k bytes. -/
def ByteRow (cur : Array Value) (k : Nat) : Prop := cur.size = k ∧ ∀ j, j < k → ∃ x : UInt8, cur[j]? = some (.int .u8 x.toNat)
theorem zbytes0 : zbytes 0 = #[] := by kernel_rfl
theorem zbytes1 : zbytes 1 = #[.int .u8 0] := by kernel_rfl
theorem zbytes2 : zbytes 2 = #[.int .u8 0, .int .u8 0] := by kernel_rfl
theorem zbytes3 : zbytes 3 = #[.int .u8 0, .int .u8 0, .int .u8 0] := by kernel_rfl
theorem zbytes4 : zbytes 4 = #[.int .u8 0, .int .u8 0, .int .u8 0, .int .u8 0] := by kernel_rfl
theorem ByteRow.zero : ∀ k, k ≤ 4 → ByteRow (zbytes k) k
  | 0, _ => ⟨zbytes_size 0, fun j hj => ⟨0, by rw [zbytes0]; omega⟩⟩
  | 1, _ => ⟨zbytes_size 1, fun j hj => ⟨0, by rw [zbytes1]; match j, hj with | 0, _ => rfl⟩⟩
  | 2, _ => ⟨zbytes_size 2, fun j hj => ⟨0, by rw [zbytes2]; match j, hj with | 0, _ => rfl | 1, _ => rfl⟩⟩
  | 3, _ => ⟨zbytes_size 3, fun j hj => ⟨0, by rw [zbytes3]; match j, hj with | 0, _ => rfl | 1, _ => rfl | 2, _ => rfl⟩⟩
  | 4, _ => ⟨zbytes_size 4, fun j hj => ⟨0, by rw [zbytes4]; match j, hj with | 0, _ => rfl | 1, _ => rfl | 2, _ => rfl | 3, _ => rfl⟩⟩
  | _ + 5, h => absurd h (by omega)
theorem ByteRow.set {cur : Array Value} {k : Nat} (h : ByteRow cur k) (j : Nat) (x : UInt8) : ByteRow (cur.setIfInBounds j (.int .u8 x.toNat)) k := by
  refine ⟨by simp [h.1], fun i hi => ?_⟩
  by_cases e : j = i
  · subst e
    exact ⟨x, by rw [Array.getElem?_setIfInBounds_self_of_lt (by rw [h.1]; exact hi)]⟩
  · obtain ⟨y, hy⟩ := h.2 i hi
    exact ⟨y, by rw [Array.getElem?_setIfInBounds_ne e]; exact hy⟩
theorem ByteRow.bytes {w : World} {g k : Nat} {cur : Array Value} (h : ByteRow cur k) (hg : w.heap[g]? = some (.cells cur 5 (0, 0))) : ∃ bs : List UInt8, bs.length = k ∧ BytesAt w g 0 bs := by
  have hf : ∀ k', k' ≤ k → ∃ bs : List UInt8, bs.length = k' ∧ ∀ (j : Nat) (x : UInt8), bs[j]? = some x → cur[j]? = some (Value.int .u8 (x.toNat : Nat)) := by
    intro k'
    induction k' with
    | zero => exact fun _ => ⟨[], rfl, fun j x hj => by simp at hj⟩
    | succ m ih =>
      intro hm
      obtain ⟨bs, hl, hb⟩ := ih (by omega)
      obtain ⟨x, hx⟩ := h.2 m (by omega)
      refine ⟨bs ++ [x], by simp [hl], fun j y hj => ?_⟩
      by_cases e : j < bs.length
      · rw [List.getElem?_append_left e] at hj; exact hb j y hj
      · rw [List.getElem?_append_right (by omega)] at hj
        have hj0 : j - bs.length = 0 := by
          have := (List.getElem?_eq_some_iff.1 hj).1
          simp at this; omega
        rw [hj0] at hj
        obtain rfl : x = y := by simpa using hj
        rw [show j = m by omega]; exact hx
  obtain ⟨bs, hl, hb⟩ := hf k (Nat.le_refl _)
  exact ⟨bs, hl, cur, 5, (0, 0), hg, fun j x hj => by rw [Nat.zero_add]; exact hb j x hj⟩

set_option maxHeartbeats 800000 in
set_option maxRecDepth 100000 in
theorem encodeInteger_any (w : World) (n : Nat) (hn : n < 2147483648) :
    Calls Tryz.prog 214 #[.int .i64 n] w fun e w' => ∃ bs g, e = .returned (.slice (some ⟨g, 0, none⟩) bs.length bs.length) ∧ (1 ≤ bs.length ∧ bs.length ≤ 4 ∧ (n ≤ 127 → bs.length = 1)) ∧ w.heap.size ≤ g ∧ BytesAt w' g 0 bs ∧ Ext none_ w w' := by
  go_enter Tryz.func214, Tryz.ntmps214
  go_wp2_with fail
  refine (int64Length_any w n hn).mono ?_
  rintro e w1 ⟨k, rfl, ⟨hk1, hk4, hk⟩, rfl⟩
  have hmk : ∀ w, (Instr.makeSlice 26 (.int .i64 (k : Int)) (.int .i64 (k : Int))).run Tryz.prog w = .ok (.slice (some ⟨w.heap.size, 0, none⟩) k k) (w.alloc (.cells (zbytes k) 5)) := fun w => make_bytes k k (Nat.le_refl _) (by omega) w
  go_wp2_with fail
  have h0 := heap_new w (.cells (zbytes k) 5 (0, 0))
  have H0 := Lib.hid (show ∃ cur, (w.alloc (.cells (zbytes k) 5)).heap[w.heap.size]? = some (.cells cur 5 (0, 0)) ∧ ByteRow cur k ∧ Ext none_ w (w.alloc (.cells (zbytes k) 5)) from ⟨_, h0, ByteRow.zero k hk4, (Ext.refl none_ w).alloc _⟩)
  clear h0 hmk
  go_loopw [3, 5] (fun v3 v5 W => ∃ r j : Nat, r + j = k ∧ v3 = .int .i64 r ∧ v5 = .int .i64 j ∧ Hid (∃ cur, W.heap[w.heap.size]? = some (.cells cur 5 (0, 0)) ∧ ByteRow cur k ∧ Ext none_ w W)) (fun v3 _ _ => (intOf v3).toNat)
  case atStart => exact ⟨k, 0, rfl, rfl, rfl, H0⟩
  case round =>
    obtain ⟨r, j, hrj, rfl, rfl, H⟩ := hrel
    by_cases hr : 0 < r
    · have hri : (0 : Int) < (r : Int) := by omega
      obtain ⟨cur, hg, hcur, E⟩ := H.out
      have c0 := Lib.cell_of_heap hg
      have f0 := Lib.frozen_of_heap hg
      have hjk : (j : Int) < (k : Int) := by omega
      have hsz : j < cur.size := by rw [hcur.1]; omega
      go_wp2_with fail
      go_roundw
      case rel =>
        obtain ⟨x, hx⟩ : ∃ x : UInt8, ((n : Int) / 2 ^ ((r - 1) * 8) % 256) = ((x.toNat : Nat) : Int) := ⟨UInt8.ofNat (n / 2 ^ ((r - 1) * 8) % 256), by
          rw [UInt8.toNat_ofNat_of_lt' (show _ < 256 from Nat.mod_lt _ (by omega))]
          simp⟩
        refine ⟨r - 1, j + 1, by omega, by congr 1; omega, by go_num, ?_⟩
        rw [hx]
        exact Lib.hid ⟨_, heap_set hg _, hcur.set j x, E.setAt (.inl (Nat.le_refl _)) _⟩
      case measure => simp [intOf]; omega
    · have hri : ¬ (0 : Int) < (r : Int) := by omega
      obtain ⟨cur, hg, hcur, E⟩ := H.out
      obtain ⟨bs, hl, hB⟩ := hcur.bytes hg
      go_wp2_with fail
      refine bodyPost_ret (v := .slice (some ⟨w.heap.size, 0, none⟩) k k) (by simp [results, Tryz.results214]) rfl ⟨bs, w.heap.size, by rw [hl], by rw [hl]; exact ⟨hk1, hk4, hk⟩, Nat.le_refl _, hB, E⟩

end Go.Proofs.YtocjfcgailkfjaaGreatDoor
end

section
namespace Go.Proofs.YtocjfcgailkfjaaGreatDoor
open Go.RowKit

/-- A packet that Encode has just made: at p, p + 1 and p + 2. -/
def RawPk (w : World) (p cc bt tag : Nat) (val : Value) (desc : ByteArray) : Prop :=
  PkBlk w p cc bt tag val (.slice none 0 0) (p + 1) (.slice (some ⟨p + 1 + 1, 0, none⟩) 0 2) desc ∧ w.heap[p + 1]? = some (.cells #[.slice none 0 0, .int .i64 0, .int .i8 0] 208 (0, 0)) ∧ w.heap[p + 1 + 1]? = some (.cells #[.pointer none, .pointer none] 87 (0, 0))

set_option maxHeartbeats 1000000 in
set_option maxRecDepth 100000 in
theorem encode_any (w : World) (cc bt tag : Nat) (desc : ByteArray) :
    Calls Tryz.prog 211 #[.int .u8 cc, .int .u8 bt, .int .u64 tag, .nilIface, .string desc] w fun e w' => e = .returned (.pointer (some ⟨w.heap.size, 0, none⟩)) ∧ RawPk w' w.heap.size cc bt tag .nilIface desc ∧ Ext none_ w w' := by
  have hmk := make_ptrs
  go_enter Tryz.func211, Tryz.ntmps211
  go_wp2_with fail
  go_ret
  refine ⟨rfl, ⟨heap_old (heap_old (heap_new w _)), heap_old ?_, ?_⟩, (((Ext.refl none_ w).alloc _).alloc _).alloc _⟩
  · have := heap_new (w.alloc (.cells #[.int .u8 cc, .int .u8 bt, .int .u64 tag, .nilIface, .slice none 0 0, .pointer (some ⟨w.heap.size + 1, 0, none⟩), .slice (some ⟨w.heap.size + 1 + 1, 0, none⟩) 0 2, .string desc] 220 (0, 0))) (.cells #[.slice none 0 0, .int .i64 0, .int .i8 0] 208 (0, 0))
    rwa [World.size_alloc] at this
  · have := heap_new ((w.alloc (.cells #[.int .u8 cc, .int .u8 bt, .int .u64 tag, .nilIface, .slice none 0 0, .pointer (some ⟨w.heap.size + 1, 0, none⟩), .slice (some ⟨w.heap.size + 1 + 1, 0, none⟩) 0 2, .string desc] 220 (0, 0))).alloc (.cells #[.slice none 0 0, .int .i64 0, .int .i8 0] 208 (0, 0))) (.cells #[.pointer none, .pointer none] 87 (0, 0))
    rwa [World.size_alloc, World.size_alloc] at this

/-- The value is stored. -/
theorem RawPk.store {w : World} {p cc bt tag : Nat} {val : Value} {desc : ByteArray} (h : RawPk w p cc bt tag val desc) (v : Value) : RawPk (w.setCell ⟨p, 3, none⟩ v) p cc bt tag v desc :=
  ⟨heap_set h.1 v, heap_set_ne h.2.1 (by omega), heap_set_ne h.2.2 (by omega)⟩
theorem RawPk.ext {w w' : World} {p cc bt tag : Nat} {val : Value} {desc : ByteArray} (h : RawPk w p cc bt tag val desc) (E : Ext none_ w w') : RawPk w' p cc bt tag val desc :=
  ⟨E.get h.1 (fun h => h), E.get h.2.1 (fun h => h), E.get h.2.2 (fun h => h)⟩
theorem RawPk.buf {w : World} {p cc bt tag : Nat} {val : Value} {desc : ByteArray} (h : RawPk w p cc bt tag val desc) : BufAt w (p + 1) none [] := ⟨0, .inl ⟨rfl, rfl, h.2.1⟩⟩
theorem RawPk.ch {w : World} {p cc bt tag : Nat} {val : Value} {desc : ByteArray} (h : RawPk w p cc bt tag val desc) : ChAt w (p + 1 + 1) (.slice (some ⟨p + 1 + 1, 0, none⟩) 0 2) [] :=
  ⟨2, _, rfl, h.2.2, rfl, by simp, by unfold maxLen; omega, fun j q hj => by simp at hj⟩
theorem RawPk.own {w : World} {p cc bt tag : Nat} {val : Value} {desc : ByteArray} {S : Nat → Prop} (h : RawPk w p cc bt tag val desc) (hS : S p ∧ S (p + 1) ∧ S (p + 1 + 1)) : PkOwn w S p cc bt tag val [] [] :=
  own_of w S p cc bt tag (p + 1) (p + 1 + 1) val _ _ none [] desc h.1 h.buf h.ch hS ⟨by omega, by omega, by omega⟩ (fun k hk => by cases hk)
/-- What was written into its buffer. -/
theorem RawPk.wrote {w w' : World} {p cc bt tag : Nat} {val : Value} {desc : ByteArray} {S : Nat → Prop} {l : List UInt8} (h : RawPk w p cc bt tag val desc) (hw : Written w w' (p + 1) none ([] ++ l)) (hS : ∀ b, p ≤ b → S b) : PkOwn w' S p cc bt tag val l [] := by
  obtain ⟨row', hb, hr, E⟩ := hw
  have hl := lt_of_block h.2.2
  refine own_of w' S p cc bt tag (p + 1) (p + 1 + 1) val _ _ row' l desc (E.get h.1 (fun e => ?_)) hb ?_ ⟨hS _ (by omega), hS _ (by omega), hS _ (by omega)⟩ ⟨by omega, by omega, by omega⟩ (fun k hk => ?_)
  · rcases e with e | e
    · omega
    · cases e
  · exact h.ch.of_heap (E.block _ hl (fun e => by
      rcases e with e | e
      · omega
      · cases e))
  · rcases hr with hr | ⟨g, hr, hg⟩
    · rw [hr] at hk; cases hk
    · rw [hr] at hk
      obtain rfl := Option.some.inj hk
      exact ⟨hS _ (by omega), by omega, by omega⟩

/-- A new packet of its own blocks. -/
def NewPk (w : World) (cc bt tag : Nat) (bs : List UInt8) (e : Ending) (w' : World) : Prop :=
  ∃ p val, e = .returned (.pointer (some ⟨p, 0, none⟩)) ∧ PkOwn w' (fun b => w.heap.size ≤ b) p cc bt tag val bs [] ∧ Ext none_ w w'

set_option maxHeartbeats 1000000 in
set_option maxRecDepth 100000 in
theorem newString_any (w : World) (cc bt tag : Nat) (l : List UInt8) (hl : l.length ≤ 480) (desc : ByteArray) :
    Calls Tryz.prog 212 #[.int .u8 cc, .int .u8 bt, .int .u64 tag, .string (strOf l), .string desc] w (NewPk w cc bt tag l) := by
  go_enter Tryz.func212, Tryz.ntmps212
  go_wp2_with fail
  refine (encode_any w cc bt tag desc).mono ?_
  rintro e w1 ⟨rfl, hraw, E1⟩
  have hR := hraw.store (.iface 9 (.string (strOf l)))
  obtain ⟨c, W', hcv, hB, hlc, hcm, E3, hsz⟩ := conv_bytes (w1.setCell ⟨w.heap.size, 3, none⟩ (.iface 9 (.string (strOf l)))) l (by omega)
  obtain ⟨n, hn⟩ : ∃ n, l.length = n := ⟨_, rfl⟩
  have c0 := Lib.cell_of_heap hraw.1
  have f0 := Lib.frozen_of_heap hraw.1
  have c1 := Lib.cell_of_heap hR.1
  have hR3 := hR.ext E3
  have hR3' := Lib.hid hR3
  have s1 := lt_of_block hR.2.2
  have E03 : Ext none_ w W' := (E1.setAt (.inl (Nat.le_refl _)) _).trans E3
  have hsz1 : (w1.setCell ⟨w.heap.size, 3, none⟩ (.iface 9 (.string (strOf l)))).heap.size = w1.heap.size := World.size_setCell _ _ _
  have s1' : w.heap.size + 1 + 1 < w1.heap.size := by rw [← hsz1]; exact s1
  rw [hsz1] at hB hcv
  have HSRC : Hid (l = [] ∨ ∃ sg so, (some ⟨w1.heap.size, 0, none⟩ : Option Addr) = some ⟨sg, so, none⟩ ∧ BytesAt W' sg so l ∧ sg ≠ w.heap.size + 1 ∧ (none : Option Nat) ≠ some sg) := Lib.hid (.inr ⟨w1.heap.size, 0, rfl, hB, by omega, fun e => by cases e⟩)
  have HN := Lib.hid hn
  rw [hn] at hcv hlc hl
  clear hraw hR hR3 hB hn
  go_wp2_with fail
  refine (write_n W' (w.heap.size + 1) none (some ⟨w1.heap.size, 0, none⟩) c n [] l (Lib.hid HN.out) hR3'.out.buf HSRC.out (by show 0 + n ≤ _; omega)).mono ?_
  rintro e w4 ⟨rfl, hw⟩
  have HW := Lib.hid hw
  clear hw hcv
  go_wp2_with fail
  refine bodyPost_ret (v := .pointer (some ⟨w.heap.size, 0, none⟩)) (by simp [results, Tryz.results212]) rfl ⟨w.heap.size, _, rfl, hR3'.out.wrote HW.out (fun b hb => hb), ?_⟩
  obtain ⟨row', -, -, E4⟩ := HW.out
  exact E03.trans' E4 fun b hb h => by
    rcases h with h | h
    · omega
    · cases h

end Go.Proofs.YtocjfcgailkfjaaGreatDoor
end

section
namespace Go.Proofs.YtocjfcgailkfjaaGreatDoor
open Go.RowKit

/-- A new packet with a number of 1 to 4 bytes. -/
def NewNum (w : World) (cc bt tag : Nat) (one : Prop) (e : Ending) (w' : World) : Prop :=
  ∃ bs, (1 ≤ bs.length ∧ bs.length ≤ 4 ∧ (one → bs.length = 1)) ∧ NewPk w cc bt tag bs e w'

theorem assert_2_3 (v : Value) (w : World) : (Instr.typeAssert (.iface 2 v) 20 3 true).run Tryz.prog w = .ok (.tuple #[.int .i64 0, .bool false]) w := by kernel_rfl
theorem assert_2_222 (v : Value) (w : World) : (Instr.typeAssert (.iface 2 v) 20 222 true).run Tryz.prog w = .ok (.tuple #[.int .u64 0, .bool false]) w := by kernel_rfl

theorem num_step {w w1 wA W4 : World} {bs : List UInt8} {cc bt tag : Nat} {v : Value} {desc : ByteArray} (hraw : RawPk w1 w.heap.size cc bt tag v desc) (E1 : Ext none_ w w1) (EA : Ext none_ w1 wA) (hw : Written wA W4 (w.heap.size + 1) none ([] ++ bs)) :
    PkOwn W4 (fun b => w.heap.size ≤ b) w.heap.size cc bt tag v bs [] ∧ Ext none_ w W4 := by
  refine ⟨(hraw.ext EA).wrote hw (fun b hb => hb), ?_⟩
  obtain ⟨row', -, -, E4⟩ := hw
  exact (E1.trans EA).trans' E4 fun b hb h => by
    rcases h with h | h
    · omega
    · cases h

/-- The number's bytes are written. -/
theorem num_write {wA : World} {p cc bt tag g : Nat} {v : Value} {desc : ByteArray} {bs : List UInt8} {Q : Prop} (hraw : RawPk wA p cc bt tag v desc) (hbs : 1 ≤ bs.length ∧ bs.length ≤ 4 ∧ Q) (hg : p + 1 + 1 < g) (hB : BytesAt wA g 0 bs) :
    ∃ n, Hid (Calls Tryz.prog 81 #[.pointer (some ⟨p + 1, 0, none⟩), .slice (some ⟨g, 0, none⟩) n n] wA fun e w' => e = .returned (.tuple #[.int .i64 n, .nilIface]) ∧ Written wA w' (p + 1) none ([] ++ bs)) ∧ Hid (bs.length = n ∧ 1 ≤ bs.length ∧ bs.length ≤ 4 ∧ Q) :=
  ⟨bs.length, Lib.hid (write_n wA (p + 1) none (some ⟨g, 0, none⟩) bs.length bs.length [] bs (Lib.hid rfl) hraw.buf (.inr ⟨g, 0, rfl, hB, by omega, fun e => by cases e⟩) (by show 0 + _ ≤ _; omega)), Lib.hid ⟨rfl, hbs⟩⟩

set_option maxHeartbeats 1000000 in
set_option maxRecDepth 100000 in
theorem newBoolean_any (w : World) (cc bt tag : Nat) (desc : ByteArray) :
    Calls Tryz.prog 224 #[.int .u8 cc, .int .u8 bt, .int .u64 tag, .bool true, .string desc] w (NewNum w cc bt tag True) := by
  go_enter Tryz.func224, Tryz.ntmps224
  go_wp2_with fail
  refine (encode_any w cc bt tag desc).mono ?_
  rintro e w1 ⟨rfl, hraw, E1⟩
  have hR := hraw.store (.iface 4 (.bool true))
  have c0 := Lib.cell_of_heap hraw.1
  have f0 := Lib.frozen_of_heap hraw.1
  have HR := Lib.hid hR
  have E1' : Ext none_ w (w1.setCell ⟨w.heap.size, 3, none⟩ (.iface 4 (.bool true))) := E1.setAt (.inl (Nat.le_refl _)) _
  clear hraw hR
  go_upto_region 6 with fail
  refine cutW (fun W => RawPk W w.heap.size cc bt tag (.iface 4 (.bool true)) desc ∧ Ext none_ w W) ⟨HR.out, E1'⟩ ?_
  clear c0 f0 HR E1 E1' w1
  rintro W ⟨hraw, E1⟩
  have c0 := Lib.cell_of_heap hraw.1
  have HR := Lib.hid hraw
  clear hraw
  have EA0 := (Ext.refl none_ W).drew
  go_region_with (first
    | (go_at_call 214; refine (encodeInteger_any _ 1 (by omega)).mono ?_; rintro e wA ⟨bs, g, rfl, hbs, hg, hB, EA⟩; have EA := EA0.trans EA; have c0 := Lib.cell_of_heap (HR.out.ext EA).1; have hgl : w.heap.size + 1 + 1 < g := Nat.lt_of_lt_of_le (lt_of_block HR.out.2.2) hg; obtain ⟨n, HW, HBS⟩ := num_write (HR.out.ext EA) hbs hgl hB; rw [HBS.out.1])
    | (go_at_call 81; refine HW.out.mono ?_; rintro e w4 ⟨rfl, hw⟩; have HW := Lib.hid hw; clear hw))
  all_goals
    go_wp2_with fail
    refine bodyPost_ret (v := .pointer (some ⟨w.heap.size, 0, none⟩)) (by simp [results, Tryz.results224]) rfl ⟨bs, ?_, w.heap.size, _, rfl, (num_step HR.out E1 EA HW.out).1, (num_step HR.out E1 EA HW.out).2⟩
    have := HBS.out.2
    exact ⟨this.1, this.2.1, fun _ => this.2.2 (by omega)⟩

set_option maxHeartbeats 1000000 in
set_option maxRecDepth 100000 in
theorem newInteger_any (w : World) (k : Nat) (hk : k < 2147483648) (cc bt tag : Nat) (desc : ByteArray) :
    Calls Tryz.prog 213 #[.int .u8 cc, .int .u8 bt, .int .u64 tag, .iface 2 (.int .i64 k), .string desc] w (NewNum w cc bt tag False) := by
  have ta := assert_2_3
  have tb := assert_2_222
  have tc := assert_int
  go_enter Tryz.func213, Tryz.ntmps213
  go_wp2_with fail
  refine (encode_any w cc bt tag desc).mono ?_
  rintro e w1 ⟨rfl, hraw, E1⟩
  have hR := hraw.store (.iface 2 (.int .i64 k))
  have c0 := Lib.cell_of_heap hraw.1
  have f0 := Lib.frozen_of_heap hraw.1
  have HR := Lib.hid hR
  have E1' : Ext none_ w (w1.setCell ⟨w.heap.size, 3, none⟩ (.iface 2 (.int .i64 k))) := E1.setAt (.inl (Nat.le_refl _)) _
  clear hraw hR
  go_upto_region 14 with fail
  refine cutW (fun W => RawPk W w.heap.size cc bt tag (.iface 2 (.int .i64 k)) desc ∧ Ext none_ w W) ⟨HR.out, E1'⟩ ?_
  clear c0 f0 HR E1 E1' w1 ta tb tc
  rintro W ⟨hraw, E1⟩
  have c0 := Lib.cell_of_heap hraw.1
  have HR := Lib.hid hraw
  clear hraw
  have EA0 := (Ext.refl none_ W).drew
  go_region_with (first
    | (go_at_call 214; refine (encodeInteger_any _ k hk).mono ?_; rintro e wA ⟨bs, g, rfl, hbs, hg, hB, EA⟩; have EA := EA0.trans EA; have c0 := Lib.cell_of_heap (HR.out.ext EA).1; have hgl : w.heap.size + 1 + 1 < g := Nat.lt_of_lt_of_le (lt_of_block HR.out.2.2) hg; obtain ⟨n, HW, HBS⟩ := num_write (HR.out.ext EA) hbs hgl hB; rw [HBS.out.1])
    | (go_at_call 81; refine HW.out.mono ?_; rintro e w4 ⟨rfl, hw⟩; have HW := Lib.hid hw; clear hw))
  all_goals
    go_wp2_with fail
    refine bodyPost_ret (v := .pointer (some ⟨w.heap.size, 0, none⟩)) (by simp [results, Tryz.results213]) rfl ⟨bs, ?_, w.heap.size, _, rfl, (num_step HR.out E1 EA HW.out).1, (num_step HR.out E1 EA HW.out).2⟩
    have := HBS.out.2
    exact ⟨this.1, this.2.1, fun h => h.elim⟩

end Go.Proofs.YtocjfcgailkfjaaGreatDoor
end

section
namespace Go.Proofs.YtocjfcgailkfjaaGreatDoor
open Go.RowKit

/-- A packet is put behind the children of another one. -/
theorem appendOwn (w : World) (S : Nat → Prop) (p cc bt tag : Nat) (val : Value) (bs : List UInt8) (ps : List Nat) (hp : PkOwn w S p cc bt tag val bs ps) (S' : Nat → Prop) (q qc qb qt : Nat) (qv : Value) (cs : List UInt8) (qs : List Nat) (hq : PkOwn w S' q qc qb qt qv cs qs)
    (hc : Hid (qc % 64 = 0 ∧ qc < 256)) (hb : Hid (qb = 0 ∨ qb = 32)) (ht : qt < 31) (hl : cs.length < 65536) (hbl : bs.length ≤ 1000000) (hpl : ps.length ≤ 1000000) :
    Calls Tryz.prog 97 #[.pointer (some ⟨p, 0, none⟩), .pointer (some ⟨q, 0, none⟩)] w fun e w' => e = .returned (.tuple #[]) ∧ PkOwn w' (fun b => S b ∨ w.heap.size ≤ b) p cc bt tag val (bs ++ encOf qc qb qt cs) (ps ++ [q]) ∧ Ext S w w' := by
  obtain ⟨d, row, bv, g, ch, ds, h1, h2, h3, ⟨hgp, hpd, hgd, hrp, hrg⟩, hSp, hSd, hSg, hSr, hbv⟩ := hp
  obtain ⟨qd, qrow, qbv, qg, qch, qds, k1, k2, -⟩ := hq
  refine (appendChild_any w p cc bt tag d g val bv ch ds row bs ps q qc qb qt qd qv qbv qch qds qrow cs _ (Lib.hid rfl) h1 h2 h3 k1 k2 hc hb ht hl hbl hpl hgp hpd hgd hrp hrg).mono ?_
  rintro e w' ⟨rfl, row', ch', g', a1, a2, a3, a4, a5, a6, E⟩
  have l1 := lt_of_block h1
  have l2 := h2.lt.1
  refine ⟨rfl, ⟨d, row', bv, g', ch', ds, a1, a2, a3, ⟨?_, hpd, ?_, ?_, a6⟩, .inl hSp, .inl hSd, ?_, fun k hk => ?_, hbv⟩, E.mono fun b _ h => ?_⟩
  · rcases a5 with rfl | h
    · exact hgp
    · omega
  · rcases a5 with rfl | h
    · exact hgd
    · omega
  · rcases a4 with rfl | ⟨k, rfl, h⟩
    · exact hrp
    · exact fun e => by have := Option.some.inj e; omega
  · rcases a5 with rfl | h
    · exact .inl hSg
    · exact .inr h
  · rcases a4 with rfl | ⟨k', rfl, h⟩
    · exact .inl (hSr k hk)
    · obtain rfl := Option.some.inj hk
      exact .inr h
  · rcases h with rfl | rfl | h | rfl
    · exact hSp
    · exact hSd
    · exact hSr b h
    · exact hSg

end Go.Proofs.YtocjfcgailkfjaaGreatDoor
end
