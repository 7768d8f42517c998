/- spec.BerLength below 65536. spec.BerLength, the longer forms. Values of spec.Ber in memory; berForms. -/
import Derived.Test.YtocjfcgailkfjaaGreatDoorMF
import Derived.MapKept
import Derived.Laws.StructEq
import Derived.Laws.BytesString

set_option linter.unusedVariables false
set_option linter.unusedSimpArgs false
set_option linter.unusedSectionVars false

section
namespace Go.Proofs.YtocjfcgailkfjaaGreatDoor
open Go.RowKit

theorem strOf_size (l : List UInt8) : (strOf l).size = l.length := by simp [strOf, ByteArray.size]
theorem strOf_nil_r (l : List UInt8) : strOf l ++ (⟨#[]⟩ : ByteArray) = strOf l := by apply ByteArray.ext; simp [strOf, ByteArray.data_append]
theorem strOf_zero_l (l : List UInt8) : (⟨#[0]⟩ : ByteArray) ++ strOf l = strOf (0 :: l) := by
  rw [show (⟨#[0]⟩ : ByteArray) = strOf [0] from rfl, strOf_append]; rfl
set_option maxHeartbeats 800000 in
set_option maxRecDepth 100000 in
theorem berLength_short (w : World) (n : Nat) (hn : n < 128) :
    Calls Tryz.prog 110 #[.int .i64 n, .int .i64 0] w fun e w' => ∃ lf, e = .returned (.string (strOf lf)) ∧ LenForm n lf ∧ Ext none_ w w' := by
  have h1 := wrap8 ⟨n, by omega⟩
  simp only at h1
  have hx : (UInt8.ofNat n).toNat = n := UInt8.toNat_ofNat_of_lt' (show _ < 256 by omega)
  have hstr := fun W => one_string W n (UInt8.ofNat n) hx
  have hLF : LenForm n [UInt8.ofNat n] := by have := LenForm.short (UInt8.ofNat n) (by rw [hx]; exact hn); rwa [hx] at this
  have HL := Lib.hid hLF
  clear hLF hx
  generalize UInt8.ofNat n = x at *
  go_enter Tryz.func110, Tryz.ntmps110
  go_wp2_with fail
  go_ret
  exact ⟨_, rfl, HL.out, (Ext.refl none_ w).alloc _⟩

theorem LenForm.of_bytes (n : Nat) (bs : List UInt8) (h0 : 0 < bs.length) (h8 : bs.length ≤ 8) (hb : beNat bs = n) (hn : n < 65536) : LenForm n (UInt8.ofNat (128 + bs.length) :: bs) := by
  have := LenForm.long (UInt8.ofNat (128 + bs.length)) bs (UInt8.toNat_ofNat_of_lt' (show _ < 256 by omega)) h0 h8 (by omega)
  rwa [hb] at this

theorem strOf_beq (x : UInt8) (l : List UInt8) : ((strOf (x :: l)).toList == (⟨#[]⟩ : ByteArray).toList) = false := by
  rw [← beq_toListBytes]
  cases h : (strOf (x :: l) == (⟨#[]⟩ : ByteArray)) with
  | false => rfl
  | true =>
    have := congrArg ByteArray.size ((MapKept.bytes_beq _ _).1 h)
    rw [strOf_size] at this
    simp [ByteArray.size] at this

theorem strOf_empty (x : UInt8) (l : List UInt8) : (strOf (x :: l)).toList.isEmpty = false := by
  have := strOf_beq x l
  cases h : (strOf (x :: l)).toList with
  | nil =>
    have h2 := congrArg List.length h
    have h3 : (strOf (x :: l)).toList.length = (strOf (x :: l)).size := by rw [ByteArray.toList_eq]; rfl
    rw [h3, strOf_size] at h2
    simp at h2
  | cons a b => rfl

theorem one_conv (W : World) (z : Int) : (convert 26 9 (.slice (some ⟨W.heap.size, 0, none⟩) 1 1)).run Tryz.prog (W.alloc (.cells #[.int .u8 z] 5)) = .ok (.string (strOf [UInt8.ofNat z.toNat])) (W.alloc (.cells #[.int .u8 z] 5)) := by
  rw [run_convert_bytes_string _ 26 9 5 _ 1 1 Tryz.underlying26 Tryz.underlying5 Tryz.underlying9, run_bytesToString _ ⟨W.heap.size, 0, none⟩ 1 1 [z] (by
    have := run_loadCells_list (P := Tryz.prog) (W.alloc (.cells #[.int .u8 z] 5)) ⟨W.heap.size, 0, none⟩ ([z].map (Value.int .u8)) (fun j v hj => by
      match j, hj with
      | 0, hj =>
        obtain rfl := Option.some.inj hj
        rw [Lib.addr_add, Lib.cell_of_heap (heap_new W _)]; rfl)
    simpa using this)]
  rfl

/-- 1 at the empty text. -/
def emptyN (v : Value) : Nat := match v with | .string b => if b.size = 0 then 1 else 0 | _ => 0

theorem empty_0 : emptyN (.string ⟨#[]⟩) = 1 := rfl
theorem empty_1 (x : UInt8) (l : List UInt8) : emptyN (.string (strOf (x :: l))) = 0 := by unfold emptyN; simp [strOf_size]

theorem beNat_cons (x : UInt8) (l : List UInt8) : beNat (x :: l) = x.toNat * 256 ^ l.length + beNat l := by
  have h : ∀ (l : List UInt8) (a : Nat), l.foldl (fun a x => a * 256 + x.toNat) a = a * 256 ^ l.length + l.foldl (fun a x => a * 256 + x.toNat) 0 := by
    intro l
    induction l with
    | nil => intro a; simp
    | cons y l ih =>
      intro a
      simp only [List.foldl_cons, List.length_cons]
      rw [ih, ih (0 * 256 + y.toNat), Nat.pow_succ, Nat.add_mul, Nat.zero_mul, Nat.zero_add, Nat.add_assoc, Nat.mul_assoc, Nat.mul_comm 256]
  simp only [beNat, List.foldl_cons, Nat.zero_mul, Nat.zero_add]
  exact h l x.toNat

/-- The state of the loop over a length's bytes: s are those that were taken, v is what is left. -/
def LenSt (n : Nat) (s x : Value) : Prop :=
  (s = .string ⟨#[]⟩ ∧ x = .int .i64 n) ∨ (∃ b : UInt8, s = .string (strOf [b]) ∧ x = .int .i64 (n / 256 : Nat) ∧ b.toNat = n % 256) ∨ (∃ a b : UInt8, s = .string (strOf [a, b]) ∧ x = .int .i64 0 ∧ beNat [a, b] = n ∧ 256 ≤ n)

theorem one_byte (n : Nat) : IntKind.u8.wrap (n : Int) = (((UInt8.ofNat (n % 256)).toNat : Nat) : Int) := by
  rw [UInt8.toNat_ofNat_of_lt' (show _ < 256 by omega)]
  show (n : Int) % 256 = _
  omega

set_option maxHeartbeats 800000 in
set_option maxRecDepth 100000 in
theorem berLength_1a (w : World) (n : Nat) (hn : n < 65536) (hni : (n : Int) < 128) :
    Calls Tryz.prog 110 #[.int .i64 n, .int .i64 1] w fun e w' => ∃ lf, e = .returned (.string (strOf lf)) ∧ LenForm n lf ∧ Ext none_ w w' := by
  have hb := strOf_size
  have hd := strOf_zero_l
  have ha := strOf_append
  have hne := strOf_empty
  have hnr := strOf_nil_r
  have hstr := one_conv
  go_enter Tryz.func110, Tryz.ntmps110
  go_wp2_with fail
  go_loopw [5, 6] (fun s x W => LenSt n s x ∧ Ext none_ w W) (fun s x _ => (intOf x).toNat + emptyN s)
  case atStart => exact ⟨.inl ⟨rfl, rfl⟩, Ext.refl none_ w⟩
  case round =>
    obtain ⟨hls, hE⟩ := hrel
    rcases hls with ⟨rfl, rfl⟩ | ⟨b, rfl, rfl, hbn⟩ | ⟨a, b, rfl, rfl, hab, hn256⟩
    · obtain ⟨b, hw, hbn⟩ : ∃ b : UInt8, IntKind.u8.wrap (n : Int) = ((b.toNat : Nat) : Int) ∧ Hid (b.toNat = n % 256) := ⟨UInt8.ofNat (n % 256), one_byte n, Lib.hid (UInt8.toNat_ofNat_of_lt' (show _ < 256 by omega))⟩
      have HE := hE.alloc (.cells #[.int .u8 (b.toNat : Nat)] 5)
      by_cases hn0 : 0 < n
      · have hn0' : (0 : Int) < (n : Int) := by omega
        go_wp2_with fail
        go_roundw
        case rel =>
          first
            | exact ⟨.inr (.inl ⟨b, rfl, by go_num, hbn.out⟩), HE⟩
            | (repeat apply Exists.intro
               exact ⟨⟨.inr (.inl ⟨b, rfl, by go_num, hbn.out⟩), HE⟩, rfl⟩)
        case measure => simp [intOf, empty_0, empty_1]; omega
      · have hn0' : ¬ (0 : Int) < (n : Int) := by omega
        go_wp2_with fail
        go_roundw
        case rel =>
          first
            | exact ⟨.inr (.inl ⟨b, rfl, by go_num, hbn.out⟩), HE⟩
            | (repeat apply Exists.intro
               exact ⟨⟨.inr (.inl ⟨b, rfl, by go_num, hbn.out⟩), HE⟩, rfl⟩)
        case measure => simp [intOf, empty_0, empty_1]; omega
    · have H := Lib.hid hbn
      clear hbn
      have hn0' : ((n / 256 : Nat) : Int) = 0 := by omega
      rw [hn0']
      go_wp2_with fail
      refine wp_loop_rounds 1 ?_
      rw [rounds_succ]
      go_wp2_with fail
      go_ret
      refine ⟨129 :: [b], rfl, LenForm.of_bytes n [b] (by simp) (by simp) ?_ hn, hE.alloc _⟩
      have h1 := H.out
      simp [beNat]; omega
    · exfalso; omega

set_option maxHeartbeats 800000 in
set_option maxRecDepth 100000 in
theorem berLength_2a (w : World) (n : Nat) (hn : n < 65536) (hni : (n : Int) < 128) :
    Calls Tryz.prog 110 #[.int .i64 n, .int .i64 2] w fun e w' => ∃ lf, e = .returned (.string (strOf lf)) ∧ LenForm n lf ∧ Ext none_ w w' := by
  have hb := strOf_size
  have hd := strOf_zero_l
  have ha := strOf_append
  have hne := strOf_empty
  have hnr := strOf_nil_r
  have hstr := one_conv
  go_enter Tryz.func110, Tryz.ntmps110
  go_wp2_with fail
  go_loopw [5, 6] (fun s x W => LenSt n s x ∧ Ext none_ w W) (fun s x _ => (intOf x).toNat + emptyN s)
  case atStart => exact ⟨.inl ⟨rfl, rfl⟩, Ext.refl none_ w⟩
  case round =>
    obtain ⟨hls, hE⟩ := hrel
    rcases hls with ⟨rfl, rfl⟩ | ⟨b, rfl, rfl, hbn⟩ | ⟨a, b, rfl, rfl, hab, hn256⟩
    · obtain ⟨b, hw, hbn⟩ : ∃ b : UInt8, IntKind.u8.wrap (n : Int) = ((b.toNat : Nat) : Int) ∧ Hid (b.toNat = n % 256) := ⟨UInt8.ofNat (n % 256), one_byte n, Lib.hid (UInt8.toNat_ofNat_of_lt' (show _ < 256 by omega))⟩
      have HE := hE.alloc (.cells #[.int .u8 (b.toNat : Nat)] 5)
      by_cases hn0 : 0 < n
      · have hn0' : (0 : Int) < (n : Int) := by omega
        go_wp2_with fail
        go_roundw
        case rel =>
          first
            | exact ⟨.inr (.inl ⟨b, rfl, by go_num, hbn.out⟩), HE⟩
            | (repeat apply Exists.intro
               exact ⟨⟨.inr (.inl ⟨b, rfl, by go_num, hbn.out⟩), HE⟩, rfl⟩)
        case measure => simp [intOf, empty_0, empty_1]; omega
      · have hn0' : ¬ (0 : Int) < (n : Int) := by omega
        go_wp2_with fail
        go_roundw
        case rel =>
          first
            | exact ⟨.inr (.inl ⟨b, rfl, by go_num, hbn.out⟩), HE⟩
            | (repeat apply Exists.intro
               exact ⟨⟨.inr (.inl ⟨b, rfl, by go_num, hbn.out⟩), HE⟩, rfl⟩)
        case measure => simp [intOf, empty_0, empty_1]; omega
    · have H := Lib.hid hbn
      clear hbn
      have hn0' : ((n / 256 : Nat) : Int) = 0 := by omega
      rw [hn0']
      go_wp2_with fail
      refine wp_loop_rounds 2 ?_
      rw [rounds_succ]
      go_wp2_with fail
      rw [rounds_succ]
      go_wp2_with fail
      go_ret
      refine ⟨130 :: [0, b], rfl, LenForm.of_bytes n [0, b] (by simp) (by simp) ?_ hn, hE.alloc _⟩
      have h1 := H.out
      simp [beNat]; omega
    · exfalso; omega

set_option maxHeartbeats 800000 in
set_option maxRecDepth 100000 in
theorem berLength_3a (w : World) (n : Nat) (hn : n < 65536) (hni : (n : Int) < 128) :
    Calls Tryz.prog 110 #[.int .i64 n, .int .i64 3] w fun e w' => ∃ lf, e = .returned (.string (strOf lf)) ∧ LenForm n lf ∧ Ext none_ w w' := by
  have hb := strOf_size
  have hd := strOf_zero_l
  have ha := strOf_append
  have hne := strOf_empty
  have hnr := strOf_nil_r
  have hstr := one_conv
  go_enter Tryz.func110, Tryz.ntmps110
  go_wp2_with fail
  go_loopw [5, 6] (fun s x W => LenSt n s x ∧ Ext none_ w W) (fun s x _ => (intOf x).toNat + emptyN s)
  case atStart => exact ⟨.inl ⟨rfl, rfl⟩, Ext.refl none_ w⟩
  case round =>
    obtain ⟨hls, hE⟩ := hrel
    rcases hls with ⟨rfl, rfl⟩ | ⟨b, rfl, rfl, hbn⟩ | ⟨a, b, rfl, rfl, hab, hn256⟩
    · obtain ⟨b, hw, hbn⟩ : ∃ b : UInt8, IntKind.u8.wrap (n : Int) = ((b.toNat : Nat) : Int) ∧ Hid (b.toNat = n % 256) := ⟨UInt8.ofNat (n % 256), one_byte n, Lib.hid (UInt8.toNat_ofNat_of_lt' (show _ < 256 by omega))⟩
      have HE := hE.alloc (.cells #[.int .u8 (b.toNat : Nat)] 5)
      by_cases hn0 : 0 < n
      · have hn0' : (0 : Int) < (n : Int) := by omega
        go_wp2_with fail
        go_roundw
        case rel =>
          first
            | exact ⟨.inr (.inl ⟨b, rfl, by go_num, hbn.out⟩), HE⟩
            | (repeat apply Exists.intro
               exact ⟨⟨.inr (.inl ⟨b, rfl, by go_num, hbn.out⟩), HE⟩, rfl⟩)
        case measure => simp [intOf, empty_0, empty_1]; omega
      · have hn0' : ¬ (0 : Int) < (n : Int) := by omega
        go_wp2_with fail
        go_roundw
        case rel =>
          first
            | exact ⟨.inr (.inl ⟨b, rfl, by go_num, hbn.out⟩), HE⟩
            | (repeat apply Exists.intro
               exact ⟨⟨.inr (.inl ⟨b, rfl, by go_num, hbn.out⟩), HE⟩, rfl⟩)
        case measure => simp [intOf, empty_0, empty_1]; omega
    · have H := Lib.hid hbn
      clear hbn
      have hn0' : ((n / 256 : Nat) : Int) = 0 := by omega
      rw [hn0']
      go_wp2_with fail
      refine wp_loop_rounds 3 ?_
      rw [rounds_succ]
      go_wp2_with fail
      rw [rounds_succ]
      go_wp2_with fail
      rw [rounds_succ]
      go_wp2_with fail
      go_ret
      refine ⟨131 :: [0, 0, b], rfl, LenForm.of_bytes n [0, 0, b] (by simp) (by simp) ?_ hn, hE.alloc _⟩
      have h1 := H.out
      simp [beNat]; omega
    · exfalso; omega

set_option maxHeartbeats 800000 in
set_option maxRecDepth 100000 in
theorem berLength_0b (w : World) (n : Nat) (hn : n < 65536) (hni : ¬ (n : Int) < 128) :
    Calls Tryz.prog 110 #[.int .i64 n, .int .i64 0] w fun e w' => ∃ lf, e = .returned (.string (strOf lf)) ∧ LenForm n lf ∧ Ext none_ w w' := by
  have hb := strOf_size
  have hd := strOf_zero_l
  have ha := strOf_append
  have hne := strOf_empty
  have hnr := strOf_nil_r
  have hstr := one_conv
  go_enter Tryz.func110, Tryz.ntmps110
  go_wp2_with fail
  go_loopw [5, 6] (fun s x W => LenSt n s x ∧ Ext none_ w W) (fun s x _ => (intOf x).toNat + emptyN s)
  case atStart => exact ⟨.inl ⟨rfl, rfl⟩, Ext.refl none_ w⟩
  case round =>
    obtain ⟨hls, hE⟩ := hrel
    rcases hls with ⟨rfl, rfl⟩ | ⟨b, rfl, rfl, hbn⟩ | ⟨a, b, rfl, rfl, hab, hn256⟩
    · obtain ⟨b, hw, hbn⟩ : ∃ b : UInt8, IntKind.u8.wrap (n : Int) = ((b.toNat : Nat) : Int) ∧ Hid (b.toNat = n % 256) := ⟨UInt8.ofNat (n % 256), one_byte n, Lib.hid (UInt8.toNat_ofNat_of_lt' (show _ < 256 by omega))⟩
      have HE := hE.alloc (.cells #[.int .u8 (b.toNat : Nat)] 5)
      by_cases hn0 : 0 < n
      · have hn0' : (0 : Int) < (n : Int) := by omega
        go_wp2_with fail
        go_roundw
        case rel =>
          first
            | exact ⟨.inr (.inl ⟨b, rfl, by go_num, hbn.out⟩), HE⟩
            | (repeat apply Exists.intro
               exact ⟨⟨.inr (.inl ⟨b, rfl, by go_num, hbn.out⟩), HE⟩, rfl⟩)
        case measure => simp [intOf, empty_0, empty_1]; omega
      · exfalso; omega
    · have H := Lib.hid hbn
      clear hbn
      by_cases hn0 : 0 < n / 256
      · obtain ⟨a, hw, hbn⟩ : ∃ a : UInt8, IntKind.u8.wrap ((n / 256 : Nat) : Int) = ((a.toNat : Nat) : Int) ∧ Hid (a.toNat = n / 256) := ⟨UInt8.ofNat (n / 256 % 256), one_byte (n / 256), Lib.hid (by rw [UInt8.toNat_ofNat_of_lt' (show _ < 256 by omega)]; omega)⟩
        have hn0' : (0 : Int) < ((n / 256 : Nat) : Int) := by omega
        have HE := hE.alloc (.cells #[.int .u8 (a.toNat : Nat)] 5)
        go_wp2_with fail
        go_roundw
        case rel =>
          have h0 : (n : Int) / 256 / 256 = 0 := by omega
          have hx : (UInt8.ofNat (n / 256)).toNat = n / 256 := UInt8.toNat_ofNat_of_lt' (show _ < 256 by omega)
          first
            | refine ⟨.inr (.inr ⟨UInt8.ofNat (n / 256), b, rfl, by rw [h0], ?_, by omega⟩), hE.alloc _⟩
            | (repeat apply Exists.intro
               refine ⟨⟨.inr (.inr ⟨UInt8.ofNat (n / 256), b, rfl, by rw [h0], ?_, by omega⟩), hE.alloc _⟩, rfl⟩)
          have h1 := H.out
          have h2 := hbn.out
          simp [beNat, hx]; omega
        case measure => simp [intOf, empty_0, empty_1]; omega
      · have hn0' : ((n / 256 : Nat) : Int) = 0 := by omega
        rw [hn0']
        go_wp2_with fail
        refine wp_loop_rounds 1 ?_
        rw [rounds_succ]
        go_wp2_with fail
        go_ret
        refine ⟨129 :: [b], rfl, LenForm.of_bytes n [b] (by simp) (by simp) ?_ hn, hE.alloc _⟩
        have h1 := H.out
        simp [beNat]; omega
    · have H := Lib.hid hab
      clear hab
      go_wp2_with fail
      refine wp_loop_rounds 1 ?_
      rw [rounds_succ]
      go_wp2_with fail
      go_ret
      refine ⟨130 :: [a, b], rfl, LenForm.of_bytes n [a, b] (by simp) (by simp) ?_ hn, hE.alloc _⟩
      have h1 := H.out
      simp [beNat] at h1 ⊢; omega

end Go.Proofs.YtocjfcgailkfjaaGreatDoor
end

section
namespace Go.Proofs.YtocjfcgailkfjaaGreatDoor
open Go.RowKit

set_option maxHeartbeats 800000 in
set_option maxRecDepth 100000 in
theorem berLength_1b (w : World) (n : Nat) (hn : n < 65536) (hni : ¬ (n : Int) < 128) :
    Calls Tryz.prog 110 #[.int .i64 n, .int .i64 1] w fun e w' => ∃ lf, e = .returned (.string (strOf lf)) ∧ LenForm n lf ∧ Ext none_ w w' := by
  have hb := strOf_size
  have hd := strOf_zero_l
  have ha := strOf_append
  have hne := strOf_empty
  have hnr := strOf_nil_r
  have hstr := one_conv
  go_enter Tryz.func110, Tryz.ntmps110
  go_wp2_with fail
  go_loopw [5, 6] (fun s x W => LenSt n s x ∧ Ext none_ w W) (fun s x _ => (intOf x).toNat + emptyN s)
  case atStart => exact ⟨.inl ⟨rfl, rfl⟩, Ext.refl none_ w⟩
  case round =>
    obtain ⟨hls, hE⟩ := hrel
    rcases hls with ⟨rfl, rfl⟩ | ⟨b, rfl, rfl, hbn⟩ | ⟨a, b, rfl, rfl, hab, hn256⟩
    · obtain ⟨b, hw, hbn⟩ : ∃ b : UInt8, IntKind.u8.wrap (n : Int) = ((b.toNat : Nat) : Int) ∧ Hid (b.toNat = n % 256) := ⟨UInt8.ofNat (n % 256), one_byte n, Lib.hid (UInt8.toNat_ofNat_of_lt' (show _ < 256 by omega))⟩
      have HE := hE.alloc (.cells #[.int .u8 (b.toNat : Nat)] 5)
      by_cases hn0 : 0 < n
      · have hn0' : (0 : Int) < (n : Int) := by omega
        go_wp2_with fail
        go_roundw
        case rel =>
          first
            | exact ⟨.inr (.inl ⟨b, rfl, by go_num, hbn.out⟩), HE⟩
            | (repeat apply Exists.intro
               exact ⟨⟨.inr (.inl ⟨b, rfl, by go_num, hbn.out⟩), HE⟩, rfl⟩)
        case measure => simp [intOf, empty_0, empty_1]; omega
      · exfalso; omega
    · have H := Lib.hid hbn
      clear hbn
      by_cases hn0 : 0 < n / 256
      · obtain ⟨a, hw, hbn⟩ : ∃ a : UInt8, IntKind.u8.wrap ((n / 256 : Nat) : Int) = ((a.toNat : Nat) : Int) ∧ Hid (a.toNat = n / 256) := ⟨UInt8.ofNat (n / 256 % 256), one_byte (n / 256), Lib.hid (by rw [UInt8.toNat_ofNat_of_lt' (show _ < 256 by omega)]; omega)⟩
        have hn0' : (0 : Int) < ((n / 256 : Nat) : Int) := by omega
        have HE := hE.alloc (.cells #[.int .u8 (a.toNat : Nat)] 5)
        go_wp2_with fail
        go_roundw
        case rel =>
          have h0 : (n : Int) / 256 / 256 = 0 := by omega
          have hx : (UInt8.ofNat (n / 256)).toNat = n / 256 := UInt8.toNat_ofNat_of_lt' (show _ < 256 by omega)
          first
            | refine ⟨.inr (.inr ⟨UInt8.ofNat (n / 256), b, rfl, by rw [h0], ?_, by omega⟩), hE.alloc _⟩
            | (repeat apply Exists.intro
               refine ⟨⟨.inr (.inr ⟨UInt8.ofNat (n / 256), b, rfl, by rw [h0], ?_, by omega⟩), hE.alloc _⟩, rfl⟩)
          have h1 := H.out
          have h2 := hbn.out
          simp [beNat, hx]; omega
        case measure => simp [intOf, empty_0, empty_1]; omega
      · have hn0' : ((n / 256 : Nat) : Int) = 0 := by omega
        rw [hn0']
        go_wp2_with fail
        refine wp_loop_rounds 1 ?_
        rw [rounds_succ]
        go_wp2_with fail
        go_ret
        refine ⟨129 :: [b], rfl, LenForm.of_bytes n [b] (by simp) (by simp) ?_ hn, hE.alloc _⟩
        have h1 := H.out
        simp [beNat]; omega
    · have H := Lib.hid hab
      clear hab
      go_wp2_with fail
      refine wp_loop_rounds 1 ?_
      rw [rounds_succ]
      go_wp2_with fail
      go_ret
      refine ⟨130 :: [a, b], rfl, LenForm.of_bytes n [a, b] (by simp) (by simp) ?_ hn, hE.alloc _⟩
      have h1 := H.out
      simp [beNat] at h1 ⊢; omega

set_option maxHeartbeats 800000 in
set_option maxRecDepth 100000 in
theorem berLength_2b (w : World) (n : Nat) (hn : n < 65536) (hni : ¬ (n : Int) < 128) :
    Calls Tryz.prog 110 #[.int .i64 n, .int .i64 2] w fun e w' => ∃ lf, e = .returned (.string (strOf lf)) ∧ LenForm n lf ∧ Ext none_ w w' := by
  have hb := strOf_size
  have hd := strOf_zero_l
  have ha := strOf_append
  have hne := strOf_empty
  have hnr := strOf_nil_r
  have hstr := one_conv
  go_enter Tryz.func110, Tryz.ntmps110
  go_wp2_with fail
  go_loopw [5, 6] (fun s x W => LenSt n s x ∧ Ext none_ w W) (fun s x _ => (intOf x).toNat + emptyN s)
  case atStart => exact ⟨.inl ⟨rfl, rfl⟩, Ext.refl none_ w⟩
  case round =>
    obtain ⟨hls, hE⟩ := hrel
    rcases hls with ⟨rfl, rfl⟩ | ⟨b, rfl, rfl, hbn⟩ | ⟨a, b, rfl, rfl, hab, hn256⟩
    · obtain ⟨b, hw, hbn⟩ : ∃ b : UInt8, IntKind.u8.wrap (n : Int) = ((b.toNat : Nat) : Int) ∧ Hid (b.toNat = n % 256) := ⟨UInt8.ofNat (n % 256), one_byte n, Lib.hid (UInt8.toNat_ofNat_of_lt' (show _ < 256 by omega))⟩
      have HE := hE.alloc (.cells #[.int .u8 (b.toNat : Nat)] 5)
      by_cases hn0 : 0 < n
      · have hn0' : (0 : Int) < (n : Int) := by omega
        go_wp2_with fail
        go_roundw
        case rel =>
          first
            | exact ⟨.inr (.inl ⟨b, rfl, by go_num, hbn.out⟩), HE⟩
            | (repeat apply Exists.intro
               exact ⟨⟨.inr (.inl ⟨b, rfl, by go_num, hbn.out⟩), HE⟩, rfl⟩)
        case measure => simp [intOf, empty_0, empty_1]; omega
      · exfalso; omega
    · have H := Lib.hid hbn
      clear hbn
      by_cases hn0 : 0 < n / 256
      · obtain ⟨a, hw, hbn⟩ : ∃ a : UInt8, IntKind.u8.wrap ((n / 256 : Nat) : Int) = ((a.toNat : Nat) : Int) ∧ Hid (a.toNat = n / 256) := ⟨UInt8.ofNat (n / 256 % 256), one_byte (n / 256), Lib.hid (by rw [UInt8.toNat_ofNat_of_lt' (show _ < 256 by omega)]; omega)⟩
        have hn0' : (0 : Int) < ((n / 256 : Nat) : Int) := by omega
        have HE := hE.alloc (.cells #[.int .u8 (a.toNat : Nat)] 5)
        go_wp2_with fail
        go_roundw
        case rel =>
          have h0 : (n : Int) / 256 / 256 = 0 := by omega
          have hx : (UInt8.ofNat (n / 256)).toNat = n / 256 := UInt8.toNat_ofNat_of_lt' (show _ < 256 by omega)
          first
            | refine ⟨.inr (.inr ⟨UInt8.ofNat (n / 256), b, rfl, by rw [h0], ?_, by omega⟩), hE.alloc _⟩
            | (repeat apply Exists.intro
               refine ⟨⟨.inr (.inr ⟨UInt8.ofNat (n / 256), b, rfl, by rw [h0], ?_, by omega⟩), hE.alloc _⟩, rfl⟩)
          have h1 := H.out
          have h2 := hbn.out
          simp [beNat, hx]; omega
        case measure => simp [intOf, empty_0, empty_1]; omega
      · have hn0' : ((n / 256 : Nat) : Int) = 0 := by omega
        rw [hn0']
        go_wp2_with fail
        refine wp_loop_rounds 2 ?_
        rw [rounds_succ]
        go_wp2_with fail
        rw [rounds_succ]
        go_wp2_with fail
        go_ret
        refine ⟨130 :: [0, b], rfl, LenForm.of_bytes n [0, b] (by simp) (by simp) ?_ hn, hE.alloc _⟩
        have h1 := H.out
        simp [beNat]; omega
    · have H := Lib.hid hab
      clear hab
      go_wp2_with fail
      refine wp_loop_rounds 2 ?_
      rw [rounds_succ]
      go_wp2_with fail
      rw [rounds_succ]
      go_wp2_with fail
      go_ret
      refine ⟨131 :: [0, a, b], rfl, LenForm.of_bytes n [0, a, b] (by simp) (by simp) ?_ hn, hE.alloc _⟩
      have h1 := H.out
      simp [beNat] at h1 ⊢; omega

set_option maxHeartbeats 800000 in
set_option maxRecDepth 100000 in
theorem berLength_3b (w : World) (n : Nat) (hn : n < 65536) (hni : ¬ (n : Int) < 128) :
    Calls Tryz.prog 110 #[.int .i64 n, .int .i64 3] w fun e w' => ∃ lf, e = .returned (.string (strOf lf)) ∧ LenForm n lf ∧ Ext none_ w w' := by
  have hb := strOf_size
  have hd := strOf_zero_l
  have ha := strOf_append
  have hne := strOf_empty
  have hnr := strOf_nil_r
  have hstr := one_conv
  go_enter Tryz.func110, Tryz.ntmps110
  go_wp2_with fail
  go_loopw [5, 6] (fun s x W => LenSt n s x ∧ Ext none_ w W) (fun s x _ => (intOf x).toNat + emptyN s)
  case atStart => exact ⟨.inl ⟨rfl, rfl⟩, Ext.refl none_ w⟩
  case round =>
    obtain ⟨hls, hE⟩ := hrel
    rcases hls with ⟨rfl, rfl⟩ | ⟨b, rfl, rfl, hbn⟩ | ⟨a, b, rfl, rfl, hab, hn256⟩
    · obtain ⟨b, hw, hbn⟩ : ∃ b : UInt8, IntKind.u8.wrap (n : Int) = ((b.toNat : Nat) : Int) ∧ Hid (b.toNat = n % 256) := ⟨UInt8.ofNat (n % 256), one_byte n, Lib.hid (UInt8.toNat_ofNat_of_lt' (show _ < 256 by omega))⟩
      have HE := hE.alloc (.cells #[.int .u8 (b.toNat : Nat)] 5)
      by_cases hn0 : 0 < n
      · have hn0' : (0 : Int) < (n : Int) := by omega
        go_wp2_with fail
        go_roundw
        case rel =>
          first
            | exact ⟨.inr (.inl ⟨b, rfl, by go_num, hbn.out⟩), HE⟩
            | (repeat apply Exists.intro
               exact ⟨⟨.inr (.inl ⟨b, rfl, by go_num, hbn.out⟩), HE⟩, rfl⟩)
        case measure => simp [intOf, empty_0, empty_1]; omega
      · exfalso; omega
    · have H := Lib.hid hbn
      clear hbn
      by_cases hn0 : 0 < n / 256
      · obtain ⟨a, hw, hbn⟩ : ∃ a : UInt8, IntKind.u8.wrap ((n / 256 : Nat) : Int) = ((a.toNat : Nat) : Int) ∧ Hid (a.toNat = n / 256) := ⟨UInt8.ofNat (n / 256 % 256), one_byte (n / 256), Lib.hid (by rw [UInt8.toNat_ofNat_of_lt' (show _ < 256 by omega)]; omega)⟩
        have hn0' : (0 : Int) < ((n / 256 : Nat) : Int) := by omega
        have HE := hE.alloc (.cells #[.int .u8 (a.toNat : Nat)] 5)
        go_wp2_with fail
        go_roundw
        case rel =>
          have h0 : (n : Int) / 256 / 256 = 0 := by omega
          have hx : (UInt8.ofNat (n / 256)).toNat = n / 256 := UInt8.toNat_ofNat_of_lt' (show _ < 256 by omega)
          first
            | refine ⟨.inr (.inr ⟨UInt8.ofNat (n / 256), b, rfl, by rw [h0], ?_, by omega⟩), hE.alloc _⟩
            | (repeat apply Exists.intro
               refine ⟨⟨.inr (.inr ⟨UInt8.ofNat (n / 256), b, rfl, by rw [h0], ?_, by omega⟩), hE.alloc _⟩, rfl⟩)
          have h1 := H.out
          have h2 := hbn.out
          simp [beNat, hx]; omega
        case measure => simp [intOf, empty_0, empty_1]; omega
      · have hn0' : ((n / 256 : Nat) : Int) = 0 := by omega
        rw [hn0']
        go_wp2_with fail
        refine wp_loop_rounds 3 ?_
        rw [rounds_succ]
        go_wp2_with fail
        rw [rounds_succ]
        go_wp2_with fail
        rw [rounds_succ]
        go_wp2_with fail
        go_ret
        refine ⟨131 :: [0, 0, b], rfl, LenForm.of_bytes n [0, 0, b] (by simp) (by simp) ?_ hn, hE.alloc _⟩
        have h1 := H.out
        simp [beNat]; omega
    · have H := Lib.hid hab
      clear hab
      go_wp2_with fail
      refine wp_loop_rounds 3 ?_
      rw [rounds_succ]
      go_wp2_with fail
      rw [rounds_succ]
      go_wp2_with fail
      rw [rounds_succ]
      go_wp2_with fail
      go_ret
      refine ⟨132 :: [0, 0, a, b], rfl, LenForm.of_bytes n [0, 0, a, b] (by simp) (by simp) ?_ hn, hE.alloc _⟩
      have h1 := H.out
      simp [beNat] at h1 ⊢; omega


/-- A length in whatever form. -/
theorem berLength_any (w : World) (n more : Nat) (hn : n < 65536) (hm : more < 4) :
    Calls Tryz.prog 110 #[.int .i64 n, .int .i64 more] w fun e w' => ∃ lf, e = .returned (.string (strOf lf)) ∧ LenForm n lf ∧ Ext none_ w w' := by
  by_cases h : n < 128
  · match more, hm with
    | 0, _ => exact berLength_short w n h
    | 1, _ => exact berLength_1a w n hn (by omega)
    | 2, _ => exact berLength_2a w n hn (by omega)
    | 3, _ => exact berLength_3a w n hn (by omega)
  · match more, hm with
    | 0, _ => exact berLength_0b w n hn (by omega)
    | 1, _ => exact berLength_1b w n hn (by omega)
    | 2, _ => exact berLength_2b w n hn (by omega)
    | 3, _ => exact berLength_3b w n hn (by omega)

end Go.Proofs.YtocjfcgailkfjaaGreatDoor
end

section
namespace Go.Proofs.YtocjfcgailkfjaaGreatDoor
open Go.RowKit

/-- A row of values of five cells each. -/
def BerRow (w : World) (S : Nat → Prop) (sl : Value) (vs : List Value) : Prop :=
  (sl = .slice none 0 0 ∧ vs = []) ∨ ∃ g cap cur, sl = .slice (some ⟨g, 0, none⟩) vs.length cap ∧ S g ∧ w.heap[g]? = some (.cells cur 43 (0, 0)) ∧ vs.length ≤ cap ∧ cap ≤ maxLen ∧ cur.size = cap * 5 ∧
    ∀ (j : Nat) x, vs[j]? = some x → ∃ a b c d e, x = .agg #[a, b, c, d, e] ∧ cur[j * 5]? = some a ∧ cur[j * 5 + 1]? = some b ∧ cur[j * 5 + 2]? = some c ∧ cur[j * 5 + 3]? = some d ∧ cur[j * 5 + 4]? = some e

mutual
/-- A tree as a value of spec.Ber. -/
def BerV (w : World) (S : Nat → Prop) : T → Value → Prop
  | .prim cls tag data, v => v = .agg #[.int .u8 cls, .bool false, .int .u64 tag, .string (strOf data), .slice none 0 0]
  | .cons cls tag kids, v => ∃ sl vs, v = .agg #[.int .u8 cls, .bool true, .int .u64 tag, .string ⟨#[]⟩, sl] ∧ BerRow w S sl vs ∧ BerVL w S kids vs
def BerVL (w : World) (S : Nat → Prop) : List T → List Value → Prop
  | [], [] => True
  | t :: ts, v :: vs => BerV w S t v ∧ BerVL w S ts vs
  | _, _ => False
end

theorem BerRow.frame {w w' : World} {S S' : Nat → Prop} {sl : Value} {vs : List Value} (h : BerRow w S sl vs) (hf : ∀ b, S b → b < w.heap.size → w'.heap[b]? = w.heap[b]? ∧ S' b) : BerRow w' S' sl vs := by
  rcases h with h | ⟨g, cap, cur, h1, h2, h3, r⟩
  · exact .inl h
  · exact .inr ⟨g, cap, cur, h1, (hf g h2 (lt_of_block h3)).2, (hf g h2 (lt_of_block h3)).1.trans h3, r⟩

mutual
theorem BerV.frame {w w' : World} {S S' : Nat → Prop} (hf : ∀ b, S b → b < w.heap.size → w'.heap[b]? = w.heap[b]? ∧ S' b) : ∀ (t : T) (v : Value), BerV w S t v → BerV w' S' t v
  | .prim cls tag data, v, h => by unfold BerV at h ⊢; exact h
  | .cons cls tag kids, v, h => by
    unfold BerV at h ⊢
    obtain ⟨sl, vs, h1, h2, h3⟩ := h
    exact ⟨sl, vs, h1, h2.frame hf, BerVL.frame hf kids vs h3⟩
theorem BerVL.frame {w w' : World} {S S' : Nat → Prop} (hf : ∀ b, S b → b < w.heap.size → w'.heap[b]? = w.heap[b]? ∧ S' b) : ∀ (ts : List T) (vs : List Value), BerVL w S ts vs → BerVL w' S' ts vs
  | [], [], _ => by unfold BerVL; trivial
  | t :: ts, v :: vs, h => by
    unfold BerVL at h ⊢
    exact ⟨BerV.frame hf t v h.1, BerVL.frame hf ts vs h.2⟩
  | [], _ :: _, h => by unfold BerVL at h; exact h.elim
  | _ :: _, [], h => by unfold BerVL at h; exact h.elim
end

theorem BerVL.length {w : World} {S : Nat → Prop} : ∀ (ts : List T) (vs : List Value), BerVL w S ts vs → vs.length = ts.length
  | [], [], _ => rfl
  | t :: ts, v :: vs, h => by
    unfold BerVL at h
    simp [BerVL.length ts vs h.2]
  | [], _ :: _, h => by unfold BerVL at h; exact h.elim
  | _ :: _, [], h => by unfold BerVL at h; exact h.elim

/-- The j-th kid. -/
theorem BerVL.at {w : World} {S : Nat → Prop} : ∀ (ts : List T) (vs : List Value) (j : Nat) (t : T), BerVL w S ts vs → ts[j]? = some t → ∃ v, vs[j]? = some v ∧ BerV w S t v
  | t :: ts, v :: vs, 0, x, h, hj => by
    unfold BerVL at h
    obtain rfl := Option.some.inj hj
    exact ⟨v, rfl, h.1⟩
  | t :: ts, v :: vs, j + 1, x, h, hj => by
    unfold BerVL at h
    exact BerVL.at ts vs j x h.2 hj
  | [], _, _, _, _, hj => by simp at hj
  | _ :: _, [], _, _, h, _ => by unfold BerVL at h; exact h.elim

theorem BerVL.snoc {w : World} {S : Nat → Prop} {t : T} {v : Value} (hv : BerV w S t v) : ∀ (ts : List T) (vs : List Value), BerVL w S ts vs → BerVL w S (ts ++ [t]) (vs ++ [v])
  | [], [], _ => by simp [BerVL, hv]
  | a :: ts, b :: vs, h => by
    unfold BerVL at h
    simp only [List.cons_append, BerVL]
    exact ⟨h.1, BerVL.snoc hv ts vs h.2⟩
  | [], _ :: _, h => by unfold BerVL at h; exact h.elim
  | _ :: _, [], h => by unfold BerVL at h; exact h.elim

mutual
/-- No form of a tree is longer. -/
def T.wt : T → Nat
  | .prim _ _ data => data.length + 12
  | .cons _ _ kids => T.wtL kids + 12
def T.wtL : List T → Nat
  | [] => 0
  | t :: ts => t.wt + T.wtL ts
end

theorem WireL.snoc {t : T} {a : List UInt8} (ha : Wire t a) : ∀ {ts : List T} {b : List UInt8}, WireL ts b → WireL (ts ++ [t]) (b ++ a)
  | _, _, .nil => by have := WireL.cons t [] a [] ha .nil; simpa using this
  | _, _, .cons t' ts' a' b' h' hs' => by
    have := WireL.cons t' (ts' ++ [t]) a' (b' ++ a) h' (WireL.snoc ha hs')
    simpa using this

theorem T.wtL_append : ∀ (a b : List T), T.wtL (a ++ b) = T.wtL a + T.wtL b
  | [], b => by simp [T.wtL]
  | t :: a, b => by simp [T.wtL, T.wtL_append a b]; omega

/-- The choices: none, or bytes in a block other than A. -/
def ChAtt (w : World) (A : Nat) (ca : Option Addr) (ch : List UInt8) : Prop := ch = [] ∨ ∃ g o, ca = some ⟨g, o, none⟩ ∧ BytesAt w g o ch ∧ g ≠ A

/-- berForms writes a form of the tree. -/
def FormsTo (A : Nat) (ca : Option Addr) (cn cc : Nat) (ch : List UInt8) (t : T) : Prop :=
  ∀ (w : World) (S : Nat → Prop) (v : Value) (k : Nat), BerV w S t v → ¬ S A → w.heap[A]? = some (.cells #[.int .i64 k] 3 (0, 0)) → ChAtt w A ca ch → k + t.wt ≤ 1000000 →
    Calls Tryz.prog 57 #[v, .slice ca cn cc, .pointer (some ⟨A, 0, none⟩)] w fun e w' => ∃ wire k', e = .returned (.string (strOf wire)) ∧ Wire t wire ∧ wire.length ≤ t.wt ∧ w'.heap[A]? = some (.cells #[.int .i64 (k' : Nat)] 3 (0, 0)) ∧ k' ≤ k + t.wt ∧ Ext (fun b => b = A) w w'

end Go.Proofs.YtocjfcgailkfjaaGreatDoor
end
