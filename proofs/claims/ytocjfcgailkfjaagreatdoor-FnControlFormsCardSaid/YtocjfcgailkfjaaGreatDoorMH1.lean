/- The size tests of the laws (zzFits) and the tests of texts, entries and results. msgText, ldapFine, LdapEntryIs, LdapResultIs: what they say yes to. -/
import Derived.Test.YtocjfcgailkfjaaGreatDoorMG5

set_option linter.unusedVariables false
set_option linter.unusedSimpArgs false
set_option linter.unusedSectionVars false

section
namespace Go.Proofs.YtocjfcgailkfjaaGreatDoor
open Go.RowKit

/-- A bool, and new blocks alone. -/
def SomeB (w : World) (e : Ending) (w' : World) : Prop := (∃ b, e = .returned (.bool b)) ∧ Ext none_ w w'

/-- A bool, and nothing new. -/
def SomeB0 (w : World) (e : Ending) (w' : World) : Prop := (∃ b, e = .returned (.bool b)) ∧ w = w'

set_option maxHeartbeats 400000 in
set_option maxRecDepth 100000 in
theorem zzFits2_any (w : World) (a : Option Addr) (n c : Nat) (l : List (List UInt8)) (h : StrRow w a n l) (hn : n ≤ 9223372036854775807) :
    Calls Tryz.prog 46 #[.slice a n c] w (SomeB0 w) := by
  obtain ⟨hln, hl⟩ := h
  have HN := Lib.hid hln
  clear hln
  go_enter Tryz.func46, Tryz.ntmps46
  go_wp2_with fail
  · go_ret
    exact ⟨⟨_, rfl⟩, rfl⟩
  · go_loop [4, 10] (fun _ v10 => ∃ j, j ≤ n ∧ v10 = .int .i64 (j : Nat)) (fun _ v10 => n - (intOf v10).toNat)
    case atStart => exact ⟨0, by omega, rfl⟩
    case round =>
      obtain ⟨j, hj, rfl⟩ := hrel
      by_cases hlt : j < n
      · have hji : (j : Int) < (n : Int) := by omega
        obtain ⟨s, hs⟩ : ∃ s, l[j]? = some s := ⟨l[j]'(by have := HN.out; omega), List.getElem?_eq_getElem _⟩
        obtain ⟨g, o, rfl, hgl, hcells⟩ := hl.resolve_left (fun e => by rw [e] at hs; simp at hs)
        have hc1 := hcells j s hs
        clear hs hcells
        go_wp2_with fail
        · go_ret
          exact ⟨⟨_, rfl⟩, rfl⟩
        · go_round
          case rel => exact ⟨j + 1, by omega, by go_num⟩
          case measure => simp [intOf]; omega
      · have hji : ¬ (j : Int) < (n : Int) := by omega
        go_wp2_with fail
        go_ret
        exact ⟨⟨_, rfl⟩, rfl⟩

set_option maxHeartbeats 400000 in
set_option maxRecDepth 100000 in
theorem zzFits9_any (w : World) (s : ByteArray) (a : Option Addr) (n c : Nat) (l : List (List UInt8)) (h : StrRow w a n l) (hn : n ≤ 9223372036854775807) :
    Calls Tryz.prog 58 #[.agg #[.string s, .slice a n c]] w (SomeB w) := by
  have E1 := (Ext.refl none_ w).alloc (.cells #[.string s, .slice a n c] 48)
  have HC := Lib.hid (zzFits2_any _ a n c l (Ext.str E1 h) hn)
  clear h
  go_enter Tryz.func58, Tryz.ntmps58
  go_wp2_with fail
  · go_ret
    exact ⟨⟨_, rfl⟩, E1⟩
  · refine HC.out.mono ?_
    rintro e w1 ⟨⟨b, rfl⟩, rfl⟩
    cases b
    all_goals
      go_wp2_with fail
      go_ret
      exact ⟨⟨_, rfl⟩, E1⟩

set_option maxHeartbeats 400000 in
set_option maxRecDepth 100000 in
theorem zzFits8_any (w : World) (a : Option Addr) (n c : Nat) (l : List (List UInt8 × List (List UInt8))) (h : AttrRow w a n l) (hn : n ≤ 9223372036854775807) (hv : ∀ x ∈ l, x.2.length ≤ 9223372036854775807) :
    Calls Tryz.prog 29 #[.slice a n c] w (SomeB w) := by
  obtain ⟨hln, hl⟩ := h
  have HN := Lib.hid hln
  clear hln
  go_enter Tryz.func29, Tryz.ntmps29
  go_wp2_with fail
  · go_ret
    exact ⟨⟨_, rfl⟩, Ext.refl _ _⟩
  · go_loopw [4, 10] (fun _ v10 W => ∃ j, j ≤ n ∧ v10 = .int .i64 (j : Nat) ∧ Ext none_ w W) (fun _ v10 _ => n - (intOf v10).toNat)
    case atStart => exact ⟨0, by omega, rfl, Ext.refl _ _⟩
    case round =>
      obtain ⟨j, hj, rfl, hE⟩ := hrel
      by_cases hlt : j < n
      · have hji : (j : Int) < (n : Int) := by omega
        obtain ⟨x, hx⟩ : ∃ x, l[j]? = some x := ⟨l[j]'(by have := HN.out; omega), List.getElem?_eq_getElem _⟩
        obtain ⟨g, o, rfl, hgl, hcells⟩ := hl.resolve_left (fun e => by rw [e] at hx; simp at hx)
        obtain ⟨va, vn, vc, k1, k2, k3⟩ := hcells j x hx
        have r1 : wr.cell? ⟨g, o + j * 2, none⟩ = some (.string (strOf x.1)) := by rw [hE.cell (p := ⟨g, _, none⟩) hgl (fun h => h)]; exact k1
        have r2 : wr.cell? ⟨g, o + j * 2 + 1, none⟩ = some (.slice va vn vc) := by rw [hE.cell (p := ⟨g, _, none⟩) hgl (fun h => h)]; exact k2
        have hvn : vn ≤ 9223372036854775807 := by
          have := hv x (List.mem_of_getElem? hx)
          rw [k3.1] at this; exact this
        have E1 := (Ext.refl none_ wr).alloc (.cells #[.string (strOf x.1), .slice va vn vc] 48)
        have HC := Lib.hid (zzFits9_any (wr.alloc (.cells #[.string (strOf x.1), .slice va vn vc] 48)) (strOf x.1) va vn vc x.2 (Ext.str (hE.trans E1) k3) hvn)
        clear hx hcells k1 k2 k3
        go_wp2_with fail
        refine HC.out.mono ?_
        rintro e w1 ⟨⟨b, rfl⟩, E2⟩
        have E3 := (hE.trans E1).trans E2
        cases b
        · go_wp2_with fail
          go_ret
          exact ⟨⟨_, rfl⟩, E3⟩
        · go_wp2_with fail
          go_roundw
          case rel => exact ⟨j + 1, by omega, by go_num, E3⟩
          case measure => simp [intOf]; omega
      · have hji : ¬ (j : Int) < (n : Int) := by omega
        go_wp2_with fail
        go_ret
        exact ⟨⟨_, rfl⟩, hE⟩

set_option maxHeartbeats 400000 in
set_option maxRecDepth 100000 in
theorem zzFits7_any (w : World) (s : ByteArray) (a : Option Addr) (n c : Nat) (l : List (List UInt8 × List (List UInt8))) (h : AttrRow w a n l) (hn : n ≤ 9223372036854775807) (hv : ∀ x ∈ l, x.2.length ≤ 9223372036854775807) :
    Calls Tryz.prog 7 #[.agg #[.string s, .slice a n c]] w (SomeB w) := by
  have E1 := (Ext.refl none_ w).alloc (.cells #[.string s, .slice a n c] 24)
  have HC := Lib.hid (zzFits8_any _ a n c l (Ext.attr E1 h) hn hv)
  clear h
  go_enter Tryz.func7, Tryz.ntmps7
  go_wp2_with fail
  · go_ret
    exact ⟨⟨_, rfl⟩, E1⟩
  · refine HC.out.mono ?_
    rintro e w1 ⟨⟨b, rfl⟩, E2⟩
    cases b
    all_goals
      go_wp2_with fail
      go_ret
      exact ⟨⟨_, rfl⟩, E1.trans E2⟩

set_option maxHeartbeats 400000 in
set_option maxRecDepth 100000 in
theorem zzFits6_any (w : World) (z : Int) (s t : ByteArray) (a : Option Addr) (n c : Nat) (l : List (List UInt8)) (h : StrRow w a n l) (hn : n ≤ 9223372036854775807) :
    Calls Tryz.prog 18 #[.agg #[.int .i64 z, .string s, .string t, .slice a n c]] w (SomeB w) := by
  have E1 := (Ext.refl none_ w).alloc (.cells #[.int .i64 z, .string s, .string t, .slice a n c] 53)
  have HC := Lib.hid (zzFits2_any _ a n c l (Ext.str E1 h) hn)
  clear h
  go_enter Tryz.func18, Tryz.ntmps18
  go_wp2_with fail
  · go_ret
    exact ⟨⟨_, rfl⟩, E1⟩
  · go_ret
    exact ⟨⟨_, rfl⟩, E1⟩
  · refine HC.out.mono ?_
    rintro e w1 ⟨⟨b, rfl⟩, rfl⟩
    cases b
    all_goals
      go_wp2_with fail
      go_ret
      exact ⟨⟨_, rfl⟩, E1⟩

end Go.Proofs.YtocjfcgailkfjaaGreatDoor
end

section
namespace Go.Proofs.YtocjfcgailkfjaaGreatDoor
open Go.RowKit

/-- A bool; P where it is true. -/
def YesIf (P : Prop) (w : World) (e : Ending) (w' : World) : Prop := ∃ b, e = .returned (.bool b) ∧ (b = true → P) ∧ w = w'
def YesIfE (P : Prop) (w : World) (e : Ending) (w' : World) : Prop := ∃ b, e = .returned (.bool b) ∧ (b = true → P) ∧ Ext none_ w w'

set_option maxHeartbeats 400000 in
set_option maxRecDepth 100000 in
theorem msgText_any (w : World) (s : ByteArray) (n most : Nat) (hn : s.size = n) (hs : n ≤ 9223372036854775807) (hm : most ≤ 1000) :
    Calls Tryz.prog 32 #[.string s, .int .i64 most] w (YesIf (n ≤ most) w) := by
  subst hn
  go_enter Tryz.func32, Tryz.ntmps32
  go_wp2_with fail
  go_loop [5] (fun v5 => ∃ j, j ≤ s.size ∧ j ≤ most + 1 ∧ v5 = .int .i64 (j : Nat)) (fun v5 => s.size - (intOf v5).toNat)
  case atStart => exact ⟨0, by omega, by omega, rfl⟩
  case round =>
    obtain ⟨j, hj, hjm, rfl⟩ := hrel
    by_cases hlt : j < s.size
    · have hji : (j : Int) < (s.size : Int) := by omega
      by_cases hlm : j ≤ most
      · have hjmi : (j : Int) ≤ (most : Int) := by omega
        go_wp2_with fail
        all_goals
          first
          | (go_ret; exact ⟨false, rfl, (fun h => by cases h), rfl⟩)
          | (go_round
             case rel => exact ⟨j + 1, by omega, by omega, by go_num⟩
             case measure => simp [intOf]; omega)
      · have hjmi : ¬ (j : Int) ≤ (most : Int) := by omega
        go_wp2_with fail
        go_ret
        exact ⟨_, rfl, (fun h => by simpa using h), rfl⟩
    · have hji : ¬ (j : Int) < (s.size : Int) := by omega
      go_wp2_with fail
      go_ret
      exact ⟨_, rfl, (fun h => by simpa using h), rfl⟩

set_option maxHeartbeats 400000 in
set_option maxRecDepth 100000 in
theorem ldapFine_any (w : World) (id : Int) (a : Option Addr) (n c : Nat) (hn : n ≤ 9223372036854775807) :
    Calls Tryz.prog 10 #[.int .i64 id, .slice a n c] w (YesIf ((0 ≤ id ∧ id < 2147483648) ∧ n ≤ 40) w) := by
  by_cases h1 : 0 ≤ id
  · by_cases h2 : id < 2147483648
    · go_enter Tryz.func10, Tryz.ntmps10
      go_wp2_with fail
      go_ret
      exact ⟨_, rfl, fun h => ⟨⟨h1, h2⟩, by simp at h; omega⟩, rfl⟩
    · go_enter Tryz.func10, Tryz.ntmps10
      go_wp2_with fail
      go_ret
      exact ⟨false, rfl, (fun h => by cases h), rfl⟩
  · go_enter Tryz.func10, Tryz.ntmps10
    go_wp2_with fail
    go_ret
    exact ⟨false, rfl, (fun h => by cases h), rfl⟩

/-- What LdapEntryIs says yes to. -/
def EntOk (name : List UInt8) (l : List (List UInt8 × List (List UInt8))) : Prop := name.length ≤ 60 ∧ l.length ≤ 6 ∧ ∀ x ∈ l, x.1.length ≤ 30 ∧ x.2.length ≤ 5 ∧ ∀ v ∈ x.2, v.length ≤ 100

set_option maxHeartbeats 1000000 in
set_option maxRecDepth 100000 in
theorem entryIs_any (w : World) (name : List UInt8) (a : Option Addr) (n c : Nat) (l : List (List UInt8 × List (List UInt8))) (h : AttrRow w a n l) (hs : name.length ≤ 9223372036854775807) (hs2 : ∀ x ∈ l, x.1.length ≤ 9223372036854775807 ∧ ∀ v ∈ x.2, v.length ≤ 9223372036854775807) (hn : n ≤ 9223372036854775807) (hv : ∀ x ∈ l, x.2.length ≤ 9223372036854775807) :
    Calls Tryz.prog 11 #[.agg #[.string (strOf name), .slice a n c]] w (YesIfE (EntOk name l) w) := by
  obtain ⟨hln, hl⟩ := h
  have HN := Lib.hid hln
  have HV := Lib.hid hv
  have HS2 := Lib.hid hs2
  clear hln hv hs2
  go_enter Tryz.func11, Tryz.ntmps11
  have E0 := (Ext.refl none_ w).alloc (.cells #[.string (strOf name), .slice a n c] 24)
  have hb0 : (w.alloc (.cells #[.string (strOf name), .slice a n c] 24)).heap[w.heap.size]? = _ := heap_new w _
  have HB0 := Lib.hid hb0
  clear hb0
  go_wp2_with fail
  refine (msgText_any _ (strOf name) name.length 60 (strOf_size name) hs (by omega)).mono ?_
  rintro e w1 ⟨b, rfl, hb, rfl⟩
  cases b
  · go_wp2_with fail
    go_ret
    exact ⟨false, rfl, (fun h => by cases h), E0⟩
  · have hname := hb rfl
    clear hb
    by_cases h6 : n ≤ 6
    · have h6i : ¬ (6 : Int) < (n : Int) := by omega
      have h6b : decide ((6 : Int) < (n : Int)) = false := by simp; omega
      go_wp2_with fail
      go_loopw [4, 6, 20] (fun _ _ v20 W => ∃ j, j ≤ n ∧ v20 = .int .i64 (j : Nat) ∧ Ext none_ w W ∧ Hid (∀ x ∈ l.take j, x.1.length ≤ 30 ∧ x.2.length ≤ 5 ∧ ∀ v ∈ x.2, v.length ≤ 100)) (fun _ _ v20 _ => n - (intOf v20).toNat)
      case atStart => exact ⟨0, by omega, rfl, E0, Lib.hid (by simp)⟩
      case round =>
        obtain ⟨j, hj, rfl, hE, HJ⟩ := hrel
        by_cases hlt : j < n
        · have hji : (j : Int) < (n : Int) := by omega
          obtain ⟨x, hx⟩ : ∃ x, l[j]? = some x := ⟨l[j]'(by have := HN.out; omega), List.getElem?_eq_getElem _⟩
          obtain ⟨g, o, rfl, hgl, hcells⟩ := hl.resolve_left (fun e => by rw [e] at hx; simp at hx)
          obtain ⟨va, vn, vc, k1, k2, k3⟩ := hcells j x hx
          have r1 : wr.cell? ⟨g, o + j * 2, none⟩ = some (.string (strOf x.1)) := by rw [hE.cell (p := ⟨g, _, none⟩) hgl (fun h => h)]; exact k1
          have r2 : wr.cell? ⟨g, o + j * 2 + 1, none⟩ = some (.slice va vn vc) := by rw [hE.cell (p := ⟨g, _, none⟩) hgl (fun h => h)]; exact k2
          have E1 := (Ext.refl none_ wr).alloc (.cells #[.string (strOf x.1), .slice va vn vc] 48)
          have K3 := Lib.hid (Ext.str (hE.trans E1) k3)
          have hvn : vn ≤ 9223372036854775807 := by
            have := HV.out x (List.mem_of_getElem? hx)
            rw [k3.1] at this; exact this
          have hxs := HS2.out x (List.mem_of_getElem? hx)
          have HXS := Lib.hid hxs.2
          have hx1 := hxs.1
          have HX := Lib.hid hx
          clear hx hcells k1 k2 k3 hxs
          go_wp2_with fail
          refine (msgText_any _ (strOf x.1) x.1.length 30 (strOf_size x.1) hx1 (by omega)).mono ?_
          rintro e w1 ⟨b, rfl, hb, rfl⟩
          cases b
          · go_wp2_with fail
            go_ret
            exact ⟨false, rfl, (fun h => by cases h), hE.trans E1⟩
          · have hty := hb rfl
            clear hb
            by_cases h5 : vn ≤ 5
            · have h5i : ¬ (5 : Int) < (vn : Int) := by omega
              have h5b : decide ((5 : Int) < (vn : Int)) = false := by simp; omega
              go_wp2_with fail
              obtain ⟨wo, rfl⟩ : ∃ wo : World, wo = wr := ⟨_, rfl⟩
              have hE1 := hE.trans E1
              clear r1 r2
              go_loop [37] (fun v37 => ∃ i, i ≤ vn ∧ v37 = .int .i64 (i : Nat) ∧ Hid (∀ v ∈ x.2.take i, v.length ≤ 100)) (fun v37 => vn - (intOf v37).toNat)
              case atStart => exact ⟨0, by omega, rfl, Lib.hid (by simp)⟩
              case round =>
                obtain ⟨i, hi, rfl, HI⟩ := hrel
                by_cases hlt2 : i < vn
                · have hii : (i : Int) < (vn : Int) := by omega
                  obtain ⟨s, hsi⟩ : ∃ s, x.2[i]? = some s := ⟨x.2[i]'(by have := K3.out.1; omega), List.getElem?_eq_getElem _⟩
                  obtain ⟨g2, o2, rfl, hgl2, hc2⟩ := K3.out.2.resolve_left (fun e => by rw [e] at hsi; simp at hsi)
                  have q1 := hc2 i s hsi
                  have hsl : (strOf s).size ≤ 9223372036854775807 := by rw [strOf_size]; exact HXS.out s (List.mem_of_getElem? hsi)
                  have HSI := Lib.hid hsi
                  clear hsi hc2
                  go_wp2_with fail
                  · go_ret
                    exact ⟨false, rfl, (fun h => by cases h), hE1⟩
                  · go_round
                    case rel =>
                      refine ⟨i + 1, by omega, by go_num, Lib.hid fun v hv => ?_⟩
                      rw [List.take_add_one, HSI.out] at hv
                      rcases List.mem_append.1 hv with hv | hv
                      · exact HI.out v hv
                      · simp at hv
                        rw [hv]
                        have hle : ((strOf s).size : Int) ≤ 100 := by assumption
                        rw [strOf_size] at hle
                        omega
                    case measure => simp [intOf]; omega
                · have hii : ¬ (i : Int) < (vn : Int) := by omega
                  obtain rfl : i = vn := by omega
                  go_wp2_with fail
                  go_roundw
                  case rel =>
                    have hrel2 : ∀ y ∈ l.take (j + 1), y.1.length ≤ 30 ∧ y.2.length ≤ 5 ∧ ∀ v ∈ y.2, v.length ≤ 100 := fun y hy => by
                      rw [List.take_add_one, HX.out] at hy
                      rcases List.mem_append.1 hy with hy | hy
                      · exact HJ.out y hy
                      · simp at hy
                        subst hy
                        have h2 := HI.out
                        rw [List.take_of_length_le (by have := K3.out.1; omega)] at h2
                        exact ⟨hty, by have := K3.out.1; omega, h2⟩
                    first
                      | exact ⟨j + 1, by omega, by go_num, hE1, Lib.hid hrel2⟩
                      | (repeat apply Exists.intro
                         exact ⟨⟨j + 1, by omega, by go_num, hE1, Lib.hid hrel2⟩, rfl⟩)
                  case measure => simp [intOf]; omega
            · have h5i : (5 : Int) < (vn : Int) := by omega
              have h5b : decide ((5 : Int) < (vn : Int)) = true := by simp; omega
              go_wp2_with fail
              go_ret
              exact ⟨false, rfl, (fun h => by cases h), hE.trans E1⟩
        · have hji : ¬ (j : Int) < (n : Int) := by omega
          obtain rfl : j = n := by omega
          go_wp2_with fail
          go_ret
          have hJ := HJ.out
          rw [List.take_of_length_le (by have := HN.out; omega)] at hJ
          exact ⟨true, rfl, fun _ => ⟨hname, by have := HN.out; omega, hJ⟩, hE⟩
    · have h6i : (6 : Int) < (n : Int) := by omega
      have h6b : decide ((6 : Int) < (n : Int)) = true := by simp; omega
      go_wp2_with fail
      go_ret
      exact ⟨false, rfl, (fun h => by cases h), E0⟩

/-- What LdapResultIs says yes to. -/
def ResOk (code : Int) (m t : List UInt8) (l : List (List UInt8)) : Prop := (0 ≤ code ∧ code ≤ 127) ∧ m.length ≤ 60 ∧ t.length ≤ 60 ∧ l.length ≤ 4 ∧ ∀ s ∈ l, s.length ≤ 60

set_option maxHeartbeats 1000000 in
set_option maxRecDepth 100000 in
theorem resultIs_any (w : World) (code : Int) (m t : List UInt8) (a : Option Addr) (n c : Nat) (l : List (List UInt8)) (h : StrRow w a n l) (hm : m.length ≤ 9223372036854775807) (ht : t.length ≤ 9223372036854775807) (hs2 : ∀ x ∈ l, x.length ≤ 9223372036854775807) (hn : n ≤ 9223372036854775807) :
    Calls Tryz.prog 19 #[.agg #[.int .i64 code, .string (strOf m), .string (strOf t), .slice a n c]] w (YesIfE (ResOk code m t l) w) := by
  have E0 := (Ext.refl none_ w).alloc (.cells #[.int .i64 code, .string (strOf m), .string (strOf t), .slice a n c] 53)
  have hb0 : (w.alloc (.cells #[.int .i64 code, .string (strOf m), .string (strOf t), .slice a n c] 53)).heap[w.heap.size]? = _ := heap_new w _
  obtain ⟨hln, hl⟩ := Ext.str E0 h
  have HN := Lib.hid hln
  have HS2 := Lib.hid hs2
  have HB0 := Lib.hid hb0
  clear hln hs2 h hb0
  go_enter Tryz.func19, Tryz.ntmps19
  go_wp2_with fail
  obtain ⟨W, hW, E⟩ : ∃ W, W.heap[w.heap.size]? = some (.cells #[.int .i64 code, .string (strOf m), .string (strOf t), .slice a n c] 53 (0, 0)) ∧ Ext none_ w W := ⟨_, HB0.out, E0⟩
  refine cutW (fun W => W.heap[w.heap.size]? = some (.cells #[.int .i64 code, .string (strOf m), .string (strOf t), .slice a n c] 53 (0, 0)) ∧ Ext none_ w W ∧ (l = [] ∨ ∃ g o, a = some ⟨g, o, none⟩ ∧ g < W.heap.size ∧ ∀ (j : Nat) s, l[j]? = some s → W.cell? ⟨g, o + j, none⟩ = some (.string (strOf s)))) ⟨HB0.out, E0, hl⟩ ?_
  clear hl HB0 E0 hW E W
  rintro W ⟨hb0, E, hl⟩
  have cb := Lib.cell_of_heap hb0
  clear hb0
  go_loop [3] (fun v3 => ∃ j, j ≤ n ∧ j ≤ 5 ∧ v3 = .int .i64 (j : Nat) ∧ Hid (∀ s ∈ l.take j, s.length ≤ 60)) (fun v3 => 6 - (intOf v3).toNat)
  case atStart => exact ⟨0, by omega, by omega, rfl, Lib.hid (by simp)⟩
  case round =>
    obtain ⟨j, hj, hj5, rfl, HJ⟩ := hrel
    have fin : (¬ j < n ∨ ¬ j < 5) → n ≤ 4 → ∀ s ∈ l, s.length ≤ 60 := fun h1 h2 => by
      have h3 := HJ.out
      rwa [List.take_of_length_le (by have := HN.out; omega)] at h3
    have FIN := Lib.hid fin
    clear fin
    by_cases hlt : j < n ∧ j < 5
    · have hji : (j : Int) < (n : Int) := by omega
      have hj5i : (j : Int) < 5 := by omega
      obtain ⟨s, hs⟩ : ∃ s, l[j]? = some s := ⟨l[j]'(by have := HN.out; omega), List.getElem?_eq_getElem _⟩
      obtain ⟨g, o, rfl, hgl, hcells⟩ := hl.resolve_left (fun e => by rw [e] at hs; simp at hs)
      have r1 := hcells j s hs
      have hsl := HS2.out s (List.mem_of_getElem? hs)
      have HS := Lib.hid hs
      clear hs hcells
      go_wp2_with fail
      refine (msgText_any _ (strOf s) s.length 60 (strOf_size s) hsl (by omega)).mono ?_
      rintro e w1 ⟨b, rfl, hb, rfl⟩
      cases b
      · go_wp2_with fail
        go_ret
        exact ⟨false, rfl, (fun h => by cases h), E⟩
      · have hty := hb rfl
        clear hb
        go_wp2_with fail
        go_round
        case rel =>
          refine ⟨j + 1, by omega, by omega, by go_num, Lib.hid fun y hy => ?_⟩
          rw [List.take_add_one, HS.out] at hy
          rcases List.mem_append.1 hy with hy | hy
          · exact HJ.out y hy
          · simp at hy
            rw [hy]; exact hty
        case measure => simp [intOf]; omega
    · have hout : ¬ j < n ∨ ¬ j < 5 := by omega
      have HOUT := Lib.hid (FIN.out hout)
      clear HJ FIN hl
      have hways : (¬ (j : Int) < (n : Int)) ∨ ((j : Int) < (n : Int) ∧ ¬ (j : Int) < 5) := by omega
      by_cases h1 : 0 ≤ code
      · by_cases h2 : code ≤ 127
        · rcases hways with hway | ⟨hway, hway2⟩
          all_goals
            go_wp2_with fail
            refine (msgText_any _ (strOf m) m.length 60 (strOf_size m) hm (by omega)).mono ?_
            rintro e w1 ⟨b, rfl, hb, rfl⟩
            cases b
            · go_wp2_with fail
              go_ret
              exact ⟨false, rfl, (fun h => by cases h), E⟩
            · have hmm := hb rfl
              clear hb
              go_wp2_with fail
              refine (msgText_any _ (strOf t) t.length 60 (strOf_size t) ht (by omega)).mono ?_
              rintro e w1 ⟨b, rfl, hb, rfl⟩
              cases b
              · go_wp2_with fail
                go_ret
                exact ⟨false, rfl, (fun h => by cases h), E⟩
              · have htt := hb rfl
                clear hb
                go_wp2_with fail
                go_ret
                exact ⟨_, rfl, (fun h => by
                  have h4 : n ≤ 4 := by simp at h; omega
                  exact ⟨⟨h1, h2⟩, hmm, htt, by have := HN.out; omega, HOUT.out h4⟩), E⟩
        · rcases hways with hway | ⟨hway, hway2⟩
          all_goals
            go_wp2_with fail
            go_ret
            exact ⟨false, rfl, (fun h => by cases h), E⟩
      · rcases hways with hway | ⟨hway, hway2⟩
        all_goals
          go_wp2_with fail
          go_ret
          exact ⟨false, rfl, (fun h => by cases h), E⟩

end Go.Proofs.YtocjfcgailkfjaaGreatDoor
end
