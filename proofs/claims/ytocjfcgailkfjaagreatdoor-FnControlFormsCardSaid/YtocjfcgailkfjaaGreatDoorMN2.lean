/- The Encode methods of the controls without a value of parts. The Encode method of the paging control. control: a control of each known kind. ControlBytes of each known kind. -/
import Derived.Test.YtocjfcgailkfjaaGreatDoorMN1
import Derived.Test.YtocjfcgailkfjaaGreatDoorMG1
import Derived.Test.YtocjfcgailkfjaaGreatDoorMF

set_option linter.unusedVariables false
set_option linter.unusedSimpArgs false
set_option linter.unusedSectionVars false

section
namespace Go.Proofs.YtocjfcgailkfjaaGreatDoor
open Go.RowKit

/-- A sequence under way: how many children it has, its bytes. -/
def EncSt (w W : World) (p n : Nat) (bs : List UInt8) : Prop := (∃ ps, ps.length = n ∧ PkOwn W (fun b => w.heap.size ≤ b) p 0 32 16 .nilIface bs ps) ∧ Ext none_ w W

theorem enc_new {w w' : World} {desc : ByteArray} (h : RawPk w' w.heap.size 0 32 16 .nilIface desc) (E : Ext none_ w w') : EncSt w w' w.heap.size 0 [] :=
  ⟨⟨[], rfl, h.own ⟨Nat.le_refl _, by omega, by omega⟩⟩, E⟩
theorem enc_step {w W w2 : World} {p n : Nat} {bs : List UInt8} (h : EncSt w W p n bs) (E : Ext none_ W w2) (hn : n ≤ 100) (hbl : bs.length ≤ 10000) {S' : Nat → Prop} {q qb qt : Nat} {qv : Value} {cs : List UInt8} {qs : List Nat} (hq : PkOwn w2 S' q 0 qb qt qv cs qs) (hb : qb = 0 ∨ qb = 32) (ht : qt < 31) (hl : cs.length ≤ 480) :
    Calls Tryz.prog 97 #[.pointer (some ⟨p, 0, none⟩), .pointer (some ⟨q, 0, none⟩)] w2 fun e w' => e = .returned (.tuple #[]) ∧ EncSt w w' p (n + 1) (bs ++ encOf 0 qb qt cs) := by
  obtain ⟨⟨ps, hpl, hp⟩, E0⟩ := h
  refine (appendOwn w2 _ p 0 32 16 .nilIface bs ps (hp.ext E) S' q 0 qb qt qv cs qs hq (Lib.hid ⟨by omega, by omega⟩) (Lib.hid hb) ht (by omega) (by omega) (by omega)).mono ?_
  rintro e w' ⟨rfl, h1, E2⟩
  have s1 := E0.size
  have s2 := E.size
  refine ⟨rfl, ⟨ps ++ [q], by simp [hpl], h1.frame fun b hb _ => ⟨rfl, ?_⟩⟩, (E0.trans E).trans' E2 fun b hb hS => by have : w.heap.size ≤ b := hS; omega⟩
  rcases hb with h | h
  · exact h
  · omega
theorem EncSt.size {w W : World} {p n : Nat} {bs : List UInt8} (h : EncSt w W p n bs) : w.heap.size ≤ W.heap.size := h.2.size

/-- A control's parts: its type, whether it is critical, its value, as far as they are there. -/
def kidsC (kd : List UInt8) (cb vl : Option (List UInt8)) : List T := .prim 0 4 kd :: (cb.toList.map (T.prim 0 1) ++ vl.toList.map (T.prim 0 4))
def CritB (crit : Bool) (cb : Option (List UInt8)) : Prop := (crit = false ∧ cb = none) ∨ (crit = true ∧ ∃ bs, bs.length = 1 ∧ cb = some bs)
/-- What an Encode method gives. -/
def EncE (w : World) (kd : List UInt8) (crit : Bool) (vl : Option (List UInt8)) (e : Ending) (w' : World) : Prop :=
  ∃ p cb n, e = .returned (.pointer (some ⟨p, 0, none⟩)) ∧ CritB crit cb ∧ EncSt w w' p n (T.encL (kidsC kd cb vl))

def kd5 : List UInt8 := [50, 46, 49, 54, 46, 56, 52, 48, 46, 49, 46, 49, 49, 51, 55, 51, 48, 46, 51, 46, 52, 46, 50]
def kd8 : List UInt8 := [49, 46, 50, 46, 56, 52, 48, 46, 49, 49, 51, 53, 53, 54, 46, 49, 46, 52, 46, 52, 49, 55]
def kd9 : List UInt8 := [49, 46, 50, 46, 56, 52, 48, 46, 49, 49, 51, 53, 53, 54, 46, 49, 46, 52, 46, 50, 51, 48, 57]
def kd10 : List UInt8 := [49, 46, 50, 46, 56, 52, 48, 46, 49, 49, 51, 53, 53, 54, 46, 49, 46, 52, 46, 56, 48, 53]
def kd1 : List UInt8 := [49, 46, 50, 46, 56, 52, 48, 46, 49, 49, 51, 53, 53, 54, 46, 49, 46, 52, 46, 51, 49, 57]

set_option maxHeartbeats 1000000 in
set_option maxRecDepth 100000 in
theorem encode8_any (w : World) (g : Nat) : Calls Tryz.prog 229 #[.pointer (some ⟨g, 0, none⟩)] w (EncE w kd8 false none) := by
  go_enter Tryz.func229, Tryz.ntmps229
  go_wp2_with fail
  refine (encode_any w 0 32 16 _).mono ?_
  rintro e w1 ⟨rfl, hraw, E1⟩
  have HS := Lib.hid (enc_new hraw E1)
  clear hraw
  go_wp2_with fail
  refine (newString_any w1 0 0 4 kd8 (by decide) _).mono ?_
  rintro e w2 ⟨q, v, rfl, hq, E2⟩
  have HQ := Lib.hid hq
  clear hq
  go_wp2_with fail
  refine (enc_step HS.out E2 (by omega) (by simp) HQ.out (.inl rfl) (by omega) (by decide)).mono ?_
  rintro e w3 ⟨rfl, hs⟩
  have HS3 := Lib.hid hs
  clear hs
  go_wp2_with fail
  go_ret
  exact ⟨_, none, _, rfl, .inl ⟨rfl, rfl⟩, HS3.out⟩

set_option maxHeartbeats 1000000 in
set_option maxRecDepth 100000 in
theorem encode9_any (w : World) (g : Nat) : Calls Tryz.prog 231 #[.pointer (some ⟨g, 0, none⟩)] w (EncE w kd9 false none) := by
  go_enter Tryz.func231, Tryz.ntmps231
  go_wp2_with fail
  refine (encode_any w 0 32 16 _).mono ?_
  rintro e w1 ⟨rfl, hraw, E1⟩
  have HS := Lib.hid (enc_new hraw E1)
  clear hraw
  go_wp2_with fail
  refine (newString_any w1 0 0 4 kd9 (by decide) _).mono ?_
  rintro e w2 ⟨q, v, rfl, hq, E2⟩
  have HQ := Lib.hid hq
  clear hq
  go_wp2_with fail
  refine (enc_step HS.out E2 (by omega) (by simp) HQ.out (.inl rfl) (by omega) (by decide)).mono ?_
  rintro e w3 ⟨rfl, hs⟩
  have HS3 := Lib.hid hs
  clear hs
  go_wp2_with fail
  go_ret
  exact ⟨_, none, _, rfl, .inl ⟨rfl, rfl⟩, HS3.out⟩

set_option maxHeartbeats 1000000 in
set_option maxRecDepth 100000 in
theorem encode10_any (w : World) (g : Nat) : Calls Tryz.prog 233 #[.pointer (some ⟨g, 0, none⟩)] w (EncE w kd10 false none) := by
  go_enter Tryz.func233, Tryz.ntmps233
  go_wp2_with fail
  refine (encode_any w 0 32 16 _).mono ?_
  rintro e w1 ⟨rfl, hraw, E1⟩
  have HS := Lib.hid (enc_new hraw E1)
  clear hraw
  go_wp2_with fail
  refine (newString_any w1 0 0 4 kd10 (by decide) _).mono ?_
  rintro e w2 ⟨q, v, rfl, hq, E2⟩
  have HQ := Lib.hid hq
  clear hq
  go_wp2_with fail
  refine (enc_step HS.out E2 (by omega) (by simp) HQ.out (.inl rfl) (by omega) (by decide)).mono ?_
  rintro e w3 ⟨rfl, hs⟩
  have HS3 := Lib.hid hs
  clear hs
  go_wp2_with fail
  go_ret
  exact ⟨_, none, _, rfl, .inl ⟨rfl, rfl⟩, HS3.out⟩

set_option maxHeartbeats 1000000 in
set_option maxRecDepth 100000 in
theorem encode5_any (w : World) (g : Nat) (crit : Bool) (hg : w.heap[g]? = some (.cells #[.bool crit] 261 (0, 0))) : Calls Tryz.prog 222 #[.pointer (some ⟨g, 0, none⟩)] w (EncE w kd5 crit none) := by
  have HG := Lib.hid hg
  clear hg
  go_enter Tryz.func222, Tryz.ntmps222
  go_wp2_with fail
  refine (encode_any w 0 32 16 _).mono ?_
  rintro e w1 ⟨rfl, hraw, E1⟩
  have HS := Lib.hid (enc_new hraw E1)
  clear hraw
  go_wp2_with fail
  refine (newString_any w1 0 0 4 kd5 (by decide) _).mono ?_
  rintro e w2 ⟨q, v, rfl, hq, E2⟩
  have HQ := Lib.hid hq
  clear hq
  go_wp2_with fail
  refine (enc_step HS.out E2 (by omega) (by simp) HQ.out (.inl rfl) (by omega) (by decide)).mono ?_
  rintro e w3 ⟨rfl, hs⟩
  have cg := Lib.cell_of_heap (hs.2.get HG.out (fun h => h))
  have HS3 := Lib.hid hs
  clear hs
  cases crit
  · go_wp2_with fail
    go_ret
    exact ⟨_, none, _, rfl, .inl ⟨rfl, rfl⟩, HS3.out⟩
  · go_wp2_with fail
    refine (newBoolean_any w3 0 0 1 _).mono ?_
    rintro e w4 ⟨bs, ⟨-, -, hb1⟩, q2, v2, rfl, hq2, E4⟩
    have hb1 := hb1 trivial
    have HQ2 := Lib.hid hq2
    have HB1 := Lib.hid hb1
    clear hq2 cg hb1
    go_wp2_with fail
    refine (enc_step HS3.out E4 (by omega) (by simp [encOf]; have : (lenEnc kd5.length).length = 1 := by decide
                                               have : kd5.length = 23 := by decide
                                               omega) HQ2.out (.inl rfl) (by omega) (by have := HB1.out; omega)).mono ?_
    rintro e w5 ⟨rfl, hs⟩
    have HS5 := Lib.hid hs
    clear hs
    go_wp2_with fail
    go_ret
    exact ⟨_, some bs, _, rfl, .inr ⟨rfl, bs, HB1.out, rfl⟩, by simpa [kidsC, T.encL, T.enc] using HS5.out⟩

theorem empty_beq : ((strOf []).toList == (⟨#[]⟩ : ByteArray).toList) = true := by kernel_rfl
theorem empty_empty : (strOf []).toList.isEmpty = true := by kernel_rfl
theorem encOf_le (cc bt tag : Nat) (bs : List UInt8) (n : Nat) (h : bs.length ≤ n) : (encOf cc bt tag bs).length ≤ n + 4 := by
  have := lenEnc_length bs.length
  simp [encOf]; omega

set_option maxHeartbeats 2000000 in
set_option maxRecDepth 100000 in
theorem encode0_any (w : World) (g : Nat) (kd vl : List UInt8) (crit : Bool) (hk : kd.length ≤ 40) (hv : vl.length ≤ 40) (o : Option (List UInt8)) (ho : Hid ((vl = [] ∧ o = none) ∨ (vl ≠ [] ∧ o = some vl))) (hg : w.heap[g]? = some (.cells #[.string (strOf kd), .bool crit, .string (strOf vl)] 259 (0, 0))) :
    Calls Tryz.prog 249 #[.pointer (some ⟨g, 0, none⟩)] w (EncE w kd crit o) := by
  have HG := Lib.hid hg
  have cg := Lib.cell_of_heap hg
  clear hg
  go_enter Tryz.func249, Tryz.ntmps249
  go_wp2_with fail
  refine (encode_any w 0 32 16 _).mono ?_
  rintro e w1 ⟨rfl, hraw, E1⟩
  have HS := Lib.hid (enc_new hraw E1)
  clear hraw cg
  have cg := Lib.cell_of_heap (E1.get HG.out (fun h => h))
  go_wp2_with fail
  refine (newString_any w1 0 0 4 kd (by omega) _).mono ?_
  rintro e w2 ⟨q, v, rfl, hq, E2⟩
  have HQ := Lib.hid hq
  clear hq cg
  go_wp2_with fail
  refine (enc_step HS.out E2 (by omega) (by simp) HQ.out (.inl rfl) (by omega) (by omega)).mono ?_
  rintro e w3 ⟨rfl, hs⟩
  have cg := Lib.cell_of_heap (hs.2.get HG.out (fun h => h))
  have HS3 := Lib.hid hs
  clear hs
  have l1 := encOf_le 0 0 4 kd 40 hk
  cases crit
  · by_cases hvl : vl = []
    · obtain rfl : o = none := ho.out.elim (fun h => h.2) (fun h => absurd hvl h.1)
      clear ho
      subst hvl
      have hne := empty_beq
      have hne2 := empty_empty
      go_wp2_with fail
      go_ret
      exact ⟨_, none, _, rfl, .inl ⟨rfl, rfl⟩, by simpa [kidsC, T.encL, T.enc] using HS3.out⟩
    · obtain rfl : o = some vl := ho.out.elim (fun h => absurd h.1 hvl) (fun h => h.2)
      clear ho
      obtain ⟨x, l, rfl⟩ : ∃ x l, vl = x :: l := by cases vl with | nil => exact absurd rfl hvl | cons x l => exact ⟨x, l, rfl⟩
      have hne := strOf_beq x l
      have hne2 := strOf_empty x l
      go_wp2_with fail
      refine (newString_any w3 0 0 4 (x :: l) (by omega) _).mono ?_
      rintro e w4 ⟨q2, v2, rfl, hq2, E4⟩
      have HQ2 := Lib.hid hq2
      clear hq2 cg
      go_wp2_with fail
      refine (enc_step HS3.out E4 (by omega) (by rw [List.nil_append]; omega) HQ2.out (.inl rfl) (by omega) (by omega)).mono ?_
      rintro e w5 ⟨rfl, hs⟩
      have HS5 := Lib.hid hs
      clear hs
      go_wp2_with fail
      go_ret
      exact ⟨_, none, _, rfl, .inl ⟨rfl, rfl⟩, by simpa [kidsC, T.encL, T.enc] using HS5.out⟩
  · go_wp2_with fail
    refine (newBoolean_any w3 0 0 1 _).mono ?_
    rintro e w4 ⟨bs, ⟨-, -, hb1⟩, q2, v2, rfl, hq2, E4⟩
    have hb1 := hb1 trivial
    have HQ2 := Lib.hid hq2
    have HB1 := Lib.hid hb1
    clear hq2 cg hb1
    go_wp2_with fail
    refine (enc_step HS3.out E4 (by omega) (by rw [List.nil_append]; omega) HQ2.out (.inl rfl) (by omega) (by have := HB1.out; omega)).mono ?_
    rintro e w5 ⟨rfl, hs⟩
    have cg := Lib.cell_of_heap (hs.2.get HG.out (fun h => h))
    have HS5 := Lib.hid hs
    clear hs
    have l2 := encOf_le 0 0 1 bs 1 (by have := HB1.out; omega)
    by_cases hvl : vl = []
    · obtain rfl : o = none := ho.out.elim (fun h => h.2) (fun h => absurd hvl h.1)
      clear ho
      subst hvl
      have hne := empty_beq
      have hne2 := empty_empty
      go_wp2_with fail
      go_ret
      exact ⟨_, some bs, _, rfl, .inr ⟨rfl, bs, HB1.out, rfl⟩, by simpa [kidsC, T.encL, T.enc] using HS5.out⟩
    · obtain rfl : o = some vl := ho.out.elim (fun h => absurd h.1 hvl) (fun h => h.2)
      clear ho
      obtain ⟨x, l, rfl⟩ : ∃ x l, vl = x :: l := by cases vl with | nil => exact absurd rfl hvl | cons x l => exact ⟨x, l, rfl⟩
      have hne := strOf_beq x l
      have hne2 := strOf_empty x l
      go_wp2_with fail
      refine (newString_any w5 0 0 4 (x :: l) (by omega) _).mono ?_
      rintro e w6 ⟨q3, v3, rfl, hq3, E6⟩
      have HQ3 := Lib.hid hq3
      clear hq3 cg
      go_wp2_with fail
      refine (enc_step HS5.out E6 (by omega) (by rw [List.nil_append, List.length_append]; omega) HQ3.out (.inl rfl) (by omega) (by omega)).mono ?_
      rintro e w7 ⟨rfl, hs⟩
      have HS7 := Lib.hid hs
      clear hs
      go_wp2_with fail
      go_ret
      exact ⟨_, some bs, _, rfl, .inr ⟨rfl, bs, HB1.out, rfl⟩, by simpa [kidsC, T.encL, T.enc] using HS7.out⟩

end Go.Proofs.YtocjfcgailkfjaaGreatDoor
end

section
namespace Go.Proofs.YtocjfcgailkfjaaGreatDoor
open Go.RowKit

/-- The value of a paging control: a sequence of a number and a cookie. -/
def pageT (bs ck : List UInt8) : T := .cons 0 16 [.prim 0 2 bs, .prim 0 4 ck]
theorem pageT_enc (bs ck : List UInt8) : (pageT bs ck).enc = encOf 0 32 16 (encOf 0 0 2 bs ++ encOf 0 0 4 ck) := by simp [pageT, T.enc, T.encL]

/-- What it gives. -/
def EncE1 (w : World) (ck : List UInt8) (e : Ending) (w' : World) : Prop := ∃ bs, (1 ≤ bs.length ∧ bs.length ≤ 4) ∧ EncE w kd1 false (some (pageT bs ck).enc) e w'

set_option maxHeartbeats 2000000 in
set_option maxRecDepth 100000 in
theorem encode1_any (w : World) (g num : Nat) (ca : Option Addr) (cn cc : Nat) (ck : List UInt8) (hnum : num < 2147483648) (hck : Hid (ck.length = cn)) (hcn : cn ≤ 40) (hB : ck = [] ∨ ∃ sg so, ca = some ⟨sg, so, none⟩ ∧ BytesAt w sg so ck)
    (hg : w.heap[g]? = some (.cells #[.int .u32 num, .slice ca cn cc] 154 (0, 0))) :
    Calls Tryz.prog 209 #[.pointer (some ⟨g, 0, none⟩)] w (EncE1 w ck) := by
  have HG := Lib.hid hg
  have HB := Lib.hid hB
  have hgl := lt_of_block hg
  have hwn : IntKind.i64.wrap (num : Int) = (num : Int) := IntWalk.i64_in _ (by omega)
  clear hg hB
  go_enter Tryz.func209, Tryz.ntmps209
  go_wp2_with fail
  refine (encode_any w 0 32 16 _).mono ?_
  rintro e w1 ⟨rfl, hraw, E1⟩
  have HS := Lib.hid (enc_new hraw E1)
  clear hraw
  go_wp2_with fail
  refine (newString_any w1 0 0 4 kd1 (by decide) _).mono ?_
  rintro e w2 ⟨q, v, rfl, hq, E2⟩
  have HQ := Lib.hid hq
  clear hq
  go_wp2_with fail
  refine (enc_step HS.out E2 (by omega) (by simp) HQ.out (.inl rfl) (by omega) (by decide)).mono ?_
  rintro e w3 ⟨rfl, hs⟩
  have HS3 := Lib.hid hs
  have E03 := hs.2
  clear hs HS HQ E2 E1
  go_wp2_with fail
  refine (encode_any w3 0 0 4 _).mono ?_
  rintro e w4 ⟨rfl, hraw, E4⟩
  have HR4 := Lib.hid hraw
  clear hraw
  go_wp2_with fail
  refine (encode_any w4 0 32 16 _).mono ?_
  rintro e w5 ⟨rfl, hraw, E5⟩
  have HS5 := Lib.hid (enc_new hraw E5)
  have cg := Lib.cell_of_heap (E5.get (E4.get (E03.get HG.out (fun h => h)) (fun h => h)) (fun h => h))
  clear hraw
  go_wp2_with fail
  refine (newInteger_any w5 num hnum 0 0 2 _).mono ?_
  rintro e w6 ⟨bs, ⟨hbs1, hbs4, -⟩, q6, v6, rfl, hq, E6⟩
  have HQ6 := Lib.hid hq
  clear hq cg
  go_wp2_with fail
  refine (enc_step HS5.out E6 (by omega) (by simp) HQ6.out (.inl rfl) (by omega) (by omega)).mono ?_
  rintro e w7 ⟨rfl, hs⟩
  have HS7 := Lib.hid hs
  have E47 := hs.2
  clear hs HS5 HQ6 E6 E5
  go_wp2_with fail
  refine (encode_any w7 0 0 4 _).mono ?_
  rintro e w8 ⟨rfl, hraw, E8⟩
  have E08 := ((E03.trans E4).trans E47).trans E8
  have hg8 := E08.get HG.out (fun h => h)
  have cg := Lib.cell_of_heap hg8
  have hr2 := hraw.store (.iface 26 (.slice ca cn cc))
  have c0 := Lib.cell_of_heap hraw.1
  have f0 := Lib.frozen_of_heap hraw.1
  have s8 := E08.size
  have s7 := (E03.trans E4).trans E47 |>.size
  have E8' : Ext none_ w7 (w8.setCell ⟨w7.heap.size, 3, none⟩ (.iface 26 (.slice ca cn cc))) := E8.setAt (.inl (Nat.le_refl _)) _
  have HR8 := Lib.hid hr2
  have hne : ¬ g = w7.heap.size := by omega
  clear hraw hr2
  go_upto_region 8 with fail
  refine cutW (fun W => RawPk W w7.heap.size 0 0 4 (.iface 26 (.slice ca cn cc)) ⟨#[67, 111, 111, 107, 105, 101]⟩ ∧ Ext none_ w7 W) ⟨HR8.out, E8'⟩ ?_
  clear c0 f0 HR8 E8 E8' cg E08 hg8 s8 w8
  rintro W ⟨hraw, E8⟩
  have E0W := ((E03.trans E4).trans E47).trans E8
  have c0 := Lib.cell_of_heap hraw.1
  have cg := Lib.cell_of_heap (E0W.get HG.out (fun h => h))
  have hsrc : ck = [] ∨ ∃ sg so, ca = some ⟨sg, so, none⟩ ∧ BytesAt W.drew sg so ck ∧ sg ≠ w7.heap.size + 1 ∧ (none : Option Nat) ≠ some sg := HB.out.imp id fun ⟨sg, so, e, hB⟩ => ⟨sg, so, e, (hB.ext E0W (fun h => h)).ext ((Ext.refl none_ W).drew) (fun h => h), by have := hB.lt; omega, fun e => by cases e⟩
  have HWR := Lib.hid (write_n W.drew (w7.heap.size + 1) none ca cc cn [] ck hck (RawPk.buf (hraw.ext ((Ext.refl none_ W).drew))) hsrc (by show 0 + _ ≤ _; omega))
  have HR := Lib.hid hraw
  clear hraw hsrc
  go_region_with ((go_at_call 81; refine HWR.out.mono ?_; rintro e w9 ⟨rfl, hw⟩; have HW := Lib.hid hw; clear hw))
  all_goals
    clear c0 cg
    go_wp2_with fail
    have hown : PkOwn w9 (fun b => w7.heap.size ≤ b) w7.heap.size 0 0 4 (.iface 26 (.slice ca cn cc)) ck [] := (HR.out.ext ((Ext.refl none_ W).drew)).wrote HW.out (fun b hb => hb)
    have E79 : Ext none_ w7 w9 := by
      obtain ⟨row', -, -, E9⟩ := HW.out
      exact (E8.drew).trans' E9 fun b hb h => by
        rcases h with h | h
        · omega
        · cases h
    have l6 := encOf_le 0 0 2 bs 4 hbs4
    refine (enc_step HS7.out E79 (by omega) (by rw [List.nil_append]; omega) hown (.inl rfl) (by omega) (by have := hck.out; omega)).mono ?_
    rintro e w10 ⟨rfl, hs⟩
    have HS10 := Lib.hid hs
    have E410 := hs.2
    clear hs hown
    go_wp2_with fail
    have l7 := encOf_le 0 0 4 ck 40 (by have := hck.out; omega)
    obtain ⟨⟨pss, hpss, hpk⟩, -⟩ := HS10.out
    have hp2 : PkOwn w10 (fun b => w3.heap.size ≤ b) w3.heap.size 0 0 4 .nilIface [] [] := (HR4.out.ext E410).own ⟨Nat.le_refl _, by omega, by omega⟩
    refine (appendOwn w10 _ w3.heap.size 0 0 4 .nilIface [] [] hp2 _ w4.heap.size 0 32 16 .nilIface _ pss hpk (Lib.hid ⟨by omega, by omega⟩) (Lib.hid (.inr rfl)) (by omega) (by rw [List.nil_append, List.length_append]; omega) (by simp) (by simp)).mono ?_
    rintro e w11 ⟨rfl, hown, E11⟩
    have E311 : Ext none_ w3 w11 := (E4.trans E410).trans' E11 fun b hb hS => by have : w3.heap.size ≤ b := hS; omega
    have HOWN := Lib.hid hown
    clear hown hp2 hpk
    go_wp2_with fail
    refine (enc_step HS3.out E311 (by omega) (by have := encOf_le 0 0 4 kd1 40 (by decide); rw [List.nil_append]; omega) HOWN.out (.inl rfl) (by omega) (by
      have := encOf_le 0 32 16 ([] ++ encOf 0 0 2 bs ++ encOf 0 0 4 ck) 60 (by rw [List.nil_append, List.length_append]; omega)
      rw [List.nil_append]; omega)).mono ?_
    rintro e w12 ⟨rfl, hs⟩
    have HS12 := Lib.hid hs
    clear hs
    go_wp2_with fail
    refine bodyPost_ret (v := .pointer (some ⟨w.heap.size, 0, none⟩)) (by simp [results, Tryz.results209]) rfl ⟨bs, ⟨hbs1, hbs4⟩, w.heap.size, none, 0 + 1 + 1, rfl, .inl ⟨rfl, rfl⟩, ?_⟩
    rw [pageT_enc]
    simpa [kidsC, T.encL, T.enc] using HS12.out

end Go.Proofs.YtocjfcgailkfjaaGreatDoor
end

section
namespace Go.Proofs.YtocjfcgailkfjaaGreatDoor
open Go.RowKit

set_option maxHeartbeats 400000 in
set_option maxRecDepth 100000 in
theorem new80_any (w : World) (s t : ByteArray) (cr : Bool) : Calls Tryz.prog 80 #[.string s, .bool cr, .string t] w fun e w' => e = .returned (.pointer (some ⟨w.heap.size, 0, none⟩)) ∧ w' = w.alloc (.cells #[.string s, .bool cr, .string t] 259) := by
  go_enter Tryz.func80, Tryz.ntmps80
  go_wp2_with fail
  go_ret
  exact ⟨rfl, rfl⟩
set_option maxHeartbeats 400000 in
set_option maxRecDepth 100000 in
theorem new73_any (w : World) (cr : Bool) : Calls Tryz.prog 73 #[.bool cr] w fun e w' => e = .returned (.pointer (some ⟨w.heap.size, 0, none⟩)) ∧ w' = w.alloc (.cells #[.bool cr] 261) := by
  go_enter Tryz.func73, Tryz.ntmps73
  go_wp2_with fail
  go_ret
  exact ⟨rfl, rfl⟩
set_option maxHeartbeats 400000 in
set_option maxRecDepth 100000 in
theorem new75_any (w : World) : Calls Tryz.prog 75 #[] w fun e w' => (∃ g, e = .returned (.pointer (some ⟨g, 0, none⟩))) ∧ Ext none_ w w' := by
  go_enter Tryz.func75, Tryz.ntmps75
  go_wp2_with fail
  go_ret
  exact ⟨⟨_, rfl⟩, (Ext.refl none_ w).alloc _⟩
set_option maxHeartbeats 400000 in
set_option maxRecDepth 100000 in
theorem new76_any (w : World) : Calls Tryz.prog 76 #[] w fun e w' => (∃ g, e = .returned (.pointer (some ⟨g, 0, none⟩))) ∧ Ext none_ w w' := by
  go_enter Tryz.func76, Tryz.ntmps76
  go_wp2_with fail
  go_ret
  exact ⟨⟨_, rfl⟩, (Ext.refl none_ w).alloc _⟩
set_option maxHeartbeats 400000 in
set_option maxRecDepth 100000 in
theorem new77_any (w : World) : Calls Tryz.prog 77 #[] w fun e w' => (∃ g, e = .returned (.pointer (some ⟨g, 0, none⟩))) ∧ Ext none_ w w' := by
  go_enter Tryz.func77, Tryz.ntmps77
  go_wp2_with fail
  go_ret
  exact ⟨⟨_, rfl⟩, (Ext.refl none_ w).alloc _⟩
set_option maxHeartbeats 1000000 in
set_option maxRecDepth 100000 in
theorem control0_any (w : World) (kd tx : List UInt8) (cr : Bool) (a b : Option Addr) (c d : Nat) :
    Calls Tryz.prog 52 #[.agg #[.int .i64 0, .string (strOf kd), .bool cr, .bool false, .int .i64 0, .int .i64 0, .int .i64 0, .string ⟨#[]⟩, .string (strOf tx), .string ⟨#[]⟩, .slice a 0 c, .slice b 0 d]] w fun e w' => ∃ g, e = .returned (.iface 203 (.pointer (some ⟨g, 0, none⟩))) ∧ w'.heap[g]? = some (.cells #[.string (strOf kd), .bool cr, .string (strOf tx)] 259 (0, 0)) ∧ Ext none_ w w' := by
  go_enter Tryz.func52, Tryz.ntmps52
  go_wp2_with fail
  refine (new80_any _ (strOf kd) (strOf tx) cr).mono ?_
  rintro e w1 ⟨rfl, rfl⟩
  go_wp2_with fail
  go_ret
  exact ⟨_, rfl, (two_new w _ _).2.1, ((Ext.refl none_ w).alloc _).alloc _⟩
set_option maxHeartbeats 1000000 in
set_option maxRecDepth 100000 in
theorem control5_any (w : World) (cr : Bool) (a b : Option Addr) (c d : Nat) :
    Calls Tryz.prog 52 #[.agg #[.int .i64 5, .string ⟨#[]⟩, .bool cr, .bool false, .int .i64 0, .int .i64 0, .int .i64 0, .string ⟨#[]⟩, .string ⟨#[]⟩, .string ⟨#[]⟩, .slice a 0 c, .slice b 0 d]] w fun e w' => ∃ g, e = .returned (.iface 163 (.pointer (some ⟨g, 0, none⟩))) ∧ w'.heap[g]? = some (.cells #[.bool cr] 261 (0, 0)) ∧ Ext none_ w w' := by
  go_enter Tryz.func52, Tryz.ntmps52
  go_wp2_with fail
  refine (new73_any _ cr).mono ?_
  rintro e w1 ⟨rfl, rfl⟩
  go_wp2_with fail
  go_ret
  exact ⟨_, rfl, (two_new w _ _).2.1, ((Ext.refl none_ w).alloc _).alloc _⟩
set_option maxHeartbeats 1000000 in
set_option maxRecDepth 100000 in
theorem control8_any (w : World) (a b : Option Addr) (c d : Nat) :
    Calls Tryz.prog 52 #[.agg #[.int .i64 8, .string ⟨#[]⟩, .bool false, .bool false, .int .i64 0, .int .i64 0, .int .i64 0, .string ⟨#[]⟩, .string ⟨#[]⟩, .string ⟨#[]⟩, .slice a 0 c, .slice b 0 d]] w fun e w' => ∃ g, e = .returned (.iface 170 (.pointer (some ⟨g, 0, none⟩))) ∧ Ext none_ w w' := by
  go_enter Tryz.func52, Tryz.ntmps52
  go_wp2_with fail
  refine (new75_any _).mono ?_
  rintro e w1 ⟨⟨g, rfl⟩, E1⟩
  go_wp2_with fail
  go_ret
  exact ⟨_, rfl, ((Ext.refl none_ w).alloc _).trans E1⟩
set_option maxHeartbeats 1000000 in
set_option maxRecDepth 100000 in
theorem control9_any (w : World) (a b : Option Addr) (c d : Nat) :
    Calls Tryz.prog 52 #[.agg #[.int .i64 9, .string ⟨#[]⟩, .bool false, .bool false, .int .i64 0, .int .i64 0, .int .i64 0, .string ⟨#[]⟩, .string ⟨#[]⟩, .string ⟨#[]⟩, .slice a 0 c, .slice b 0 d]] w fun e w' => ∃ g, e = .returned (.iface 172 (.pointer (some ⟨g, 0, none⟩))) ∧ Ext none_ w w' := by
  go_enter Tryz.func52, Tryz.ntmps52
  go_wp2_with fail
  refine (new76_any _).mono ?_
  rintro e w1 ⟨⟨g, rfl⟩, E1⟩
  go_wp2_with fail
  go_ret
  exact ⟨_, rfl, ((Ext.refl none_ w).alloc _).trans E1⟩
set_option maxHeartbeats 1000000 in
set_option maxRecDepth 100000 in
theorem control10_any (w : World) (a b : Option Addr) (c d : Nat) :
    Calls Tryz.prog 52 #[.agg #[.int .i64 10, .string ⟨#[]⟩, .bool false, .bool false, .int .i64 0, .int .i64 0, .int .i64 0, .string ⟨#[]⟩, .string ⟨#[]⟩, .string ⟨#[]⟩, .slice a 0 c, .slice b 0 d]] w fun e w' => ∃ g, e = .returned (.iface 174 (.pointer (some ⟨g, 0, none⟩))) ∧ Ext none_ w w' := by
  go_enter Tryz.func52, Tryz.ntmps52
  go_wp2_with fail
  refine (new77_any _).mono ?_
  rintro e w1 ⟨⟨g, rfl⟩, E1⟩
  go_wp2_with fail
  go_ret
  exact ⟨_, rfl, ((Ext.refl none_ w).alloc _).trans E1⟩
set_option maxHeartbeats 1000000 in
set_option maxRecDepth 100000 in
theorem control1_any (w : World) (num : Nat) (ck : List UInt8) (hnum : num < 2147483648) (hck : ck.length ≤ 40) (a b : Option Addr) (c d : Nat) :
    Calls Tryz.prog 52 #[.agg #[.int .i64 1, .string ⟨#[]⟩, .bool false, .bool false, .int .i64 num, .int .i64 0, .int .i64 0, .string (strOf ck), .string ⟨#[]⟩, .string ⟨#[]⟩, .slice a 0 c, .slice b 0 d]] w fun e w' => ∃ g ca cn cc, e = .returned (.iface 151 (.pointer (some ⟨g, 0, none⟩))) ∧ w'.heap[g]? = some (.cells #[.int .u32 num, .slice ca cn cc] 154 (0, 0)) ∧ Hid (ck.length = cn) ∧ (ck = [] ∨ ∃ sg so, ca = some ⟨sg, so, none⟩ ∧ BytesAt w' sg so ck) ∧ Ext none_ w w' := by
  have hw : IntKind.u32.wrap (num : Int) = (num : Int) := by
    show (num : Int) % 4294967296 = _
    omega
  have E1 := (Ext.refl none_ w).alloc (.cells #[.int .i64 1, .string ⟨#[]⟩, .bool false, .bool false, .int .i64 num, .int .i64 0, .int .i64 0, .string (strOf ck), .string ⟨#[]⟩, .string ⟨#[]⟩, .slice a 0 c, .slice b 0 d] 65)
  have hb := heap_new w (.cells #[.int .i64 1, .string ⟨#[]⟩, .bool false, .bool false, .int .i64 num, .int .i64 0, .int .i64 0, .string (strOf ck), .string ⟨#[]⟩, .string ⟨#[]⟩, .slice a 0 c, .slice b 0 d] 65 (0, 0))
  by_cases h0 : ck = []
  · subst h0
    have hne := empty_beq
    have hne2 := empty_empty
    go_enter Tryz.func52, Tryz.ntmps52
    go_wp2_with fail
    go_ret
    exact ⟨_, none, 0, 0, rfl, (two_new w _ _).2.1, Lib.hid rfl, .inl trivial, E1.alloc _⟩
  · obtain ⟨x, l, rfl⟩ : ∃ x l, ck = x :: l := by cases ck with | nil => exact absurd rfl h0 | cons x l => exact ⟨x, l, rfl⟩
    have hne := strOf_beq x l
    have hne2 := strOf_empty x l
    obtain ⟨cc, W', hcv, hB, hlc, hcm, E3, hsz⟩ := conv_bytes (w.alloc (.cells #[.int .i64 1, .string ⟨#[]⟩, .bool false, .bool false, .int .i64 num, .int .i64 0, .int .i64 0, .string (strOf (x :: l)), .string ⟨#[]⟩, .string ⟨#[]⟩, .slice a 0 c, .slice b 0 d] 65)) (x :: l) (by omega)
    obtain ⟨n, hn⟩ : ∃ n, (x :: l).length = n := ⟨_, rfl⟩
    rw [hn] at hcv hlc
    have HN := Lib.hid hn
    have HZ := Lib.hid hsz
    have hs1 : (w.alloc (.cells #[.int .i64 1, .string ⟨#[]⟩, .bool false, .bool false, .int .i64 num, .int .i64 0, .int .i64 0, .string (strOf (x :: l)), .string ⟨#[]⟩, .string ⟨#[]⟩, .slice a 0 c, .slice b 0 d] 65)).heap.size = w.heap.size + 1 := World.size_alloc _ _
    rw [hs1] at hcv hB
    have HB := Lib.hid hB
    have cW := Lib.cell_of_heap (E3.get hb (fun h => h))
    clear hn hB
    go_enter Tryz.func52, Tryz.ntmps52
    go_wp2_with fail
    go_ret
    have hn2 := heap_new W' (.cells #[.int .u32 num, .slice (some ⟨w.heap.size + 1, 0, none⟩) n cc] 154 (0, 0))
    rw [show W'.heap.size = w.heap.size + 1 + 1 by have := HZ.out; rw [hs1] at this; exact this] at hn2
    exact ⟨_, _, n, cc, rfl, hn2, HN, .inr ⟨_, 0, rfl, HB.out.ext ((Ext.refl none_ W').alloc _) (fun h => h)⟩, (E1.trans E3).alloc _⟩

end Go.Proofs.YtocjfcgailkfjaaGreatDoor
end

section
namespace Go.Proofs.YtocjfcgailkfjaaGreatDoor
open Go.RowKit

theorem enc_method203 (a : Addr) (w : World) : (method 540 203 (.pointer (some a)) "Encode").run Tryz.prog w = .ok (249, .pointer (some a)) w := by kernel_rfl
theorem enc_ahead203 (a : Addr) (w : World) : (nilAhead 540 203 (.pointer (some a)) "Encode").run Tryz.prog w = .ok (some false) w := by kernel_rfl
theorem enc_method151 (a : Addr) (w : World) : (method 540 151 (.pointer (some a)) "Encode").run Tryz.prog w = .ok (209, .pointer (some a)) w := by kernel_rfl
theorem enc_ahead151 (a : Addr) (w : World) : (nilAhead 540 151 (.pointer (some a)) "Encode").run Tryz.prog w = .ok (some false) w := by kernel_rfl
theorem enc_method163 (a : Addr) (w : World) : (method 540 163 (.pointer (some a)) "Encode").run Tryz.prog w = .ok (222, .pointer (some a)) w := by kernel_rfl
theorem enc_ahead163 (a : Addr) (w : World) : (nilAhead 540 163 (.pointer (some a)) "Encode").run Tryz.prog w = .ok (some false) w := by kernel_rfl
theorem enc_method170 (a : Addr) (w : World) : (method 540 170 (.pointer (some a)) "Encode").run Tryz.prog w = .ok (229, .pointer (some a)) w := by kernel_rfl
theorem enc_ahead170 (a : Addr) (w : World) : (nilAhead 540 170 (.pointer (some a)) "Encode").run Tryz.prog w = .ok (some false) w := by kernel_rfl
theorem enc_method172 (a : Addr) (w : World) : (method 540 172 (.pointer (some a)) "Encode").run Tryz.prog w = .ok (231, .pointer (some a)) w := by kernel_rfl
theorem enc_ahead172 (a : Addr) (w : World) : (nilAhead 540 172 (.pointer (some a)) "Encode").run Tryz.prog w = .ok (some false) w := by kernel_rfl
theorem enc_method174 (a : Addr) (w : World) : (method 540 174 (.pointer (some a)) "Encode").run Tryz.prog w = .ok (233, .pointer (some a)) w := by kernel_rfl
theorem enc_ahead174 (a : Addr) (w : World) : (nilAhead 540 174 (.pointer (some a)) "Encode").run Tryz.prog w = .ok (some false) w := by kernel_rfl

/-- A control's tree. -/
def ctlC (kd : List UInt8) (cb vl : Option (List UInt8)) : T := .cons 0 16 (kidsC kd cb vl)
theorem kids_len (kd : List UInt8) (cb vl : Option (List UInt8)) (crit : Bool) (hc : CritB crit cb) (hk : kd.length ≤ 40) (hv : ∀ v, vl = some v → v.length ≤ 100) : (T.encL (kidsC kd cb vl)).length ≤ 200 := by
  have h1 := encOf_le 0 0 4 kd 40 hk
  have h2 : (T.encL (cb.toList.map (T.prim 0 1))).length ≤ 5 := by
    rcases hc with ⟨_, rfl⟩ | ⟨_, bs, hb, rfl⟩
    · simp [T.encL]
    · have := encOf_le 0 0 1 bs 1 (by omega)
      simp [T.encL, T.enc]; omega
  have h3 : (T.encL (vl.toList.map (T.prim 0 4))).length ≤ 104 := by
    cases vl with
    | none => simp [T.encL]
    | some v =>
      have := encOf_le 0 0 4 v 100 (hv v rfl)
      simp [T.encL, T.enc]; omega
  unfold kidsC
  simp only [T.encL, T.enc, T.encL_append, List.length_append]
  simp only [Nat.zero_mul] at *
  omega
/-- What ControlBytes gives. -/
def CtlB (w : World) (kd : List UInt8) (crit : Bool) (vl : Option (List UInt8)) (e : Ending) (w' : World) : Prop :=
  ∃ cb, CritB crit cb ∧ e = .returned (.tuple #[.string (strOf (ctlC kd cb vl).enc), .bool true]) ∧ Ext none_ w w'

/-- The bytes of what was encoded. -/
theorem enc_bytes (w W : World) (p n : Nat) (kd : List UInt8) (cb vl : Option (List UInt8)) (h : EncSt w W p n (T.encL (kidsC kd cb vl))) (hl : (T.encL (kidsC kd cb vl)).length ≤ 200) :
    Calls Tryz.prog 53 #[.pointer (some ⟨p, 0, none⟩)] W fun e w' => ∃ g c m, e = .returned (.slice (some ⟨g, 0, none⟩) m c) ∧ Hid ((ctlC kd cb vl).enc.length = m) ∧ BytesAt w' g 0 (ctlC kd cb vl).enc ∧ Ext none_ W w' := by
  obtain ⟨⟨ps, -, d, row, bv, g, ch, ds, h1, h2, -⟩, -⟩ := h
  refine (packetBytes_any W p 0 32 16 d _ bv ch ds row _ h1 h2 (Lib.hid ⟨by omega, by omega⟩) (Lib.hid (.inr rfl)) (by omega) (by omega)).mono ?_
  rintro e w' ⟨v, rfl, ⟨g, c, rfl, -, hB⟩, E⟩
  have he : (ctlC kd cb vl).enc = [UInt8.ofNat (0 + 32 + 16)] ++ lenEnc (T.encL (kidsC kd cb vl)).length ++ T.encL (kidsC kd cb vl) := by simp [ctlC, T.enc, encOf]
  exact ⟨g, c, _, rfl, Lib.hid (by rw [he]), by rw [he]; exact hB, E⟩

set_option maxHeartbeats 1000000 in
set_option maxRecDepth 100000 in
theorem bytes0_any (w : World) (kd tx : List UInt8) (cr : Bool) (hk : kd.length ≤ 40) (ht : tx.length ≤ 40) (o : Option (List UInt8)) (ho : Hid ((tx = [] ∧ o = none) ∨ (tx ≠ [] ∧ o = some tx))) (a b : Option Addr) (c d : Nat) :
    Calls Tryz.prog 25 #[.agg #[.int .i64 0, .string (strOf kd), .bool cr, .bool false, .int .i64 0, .int .i64 0, .int .i64 0, .string ⟨#[]⟩, .string (strOf tx), .string ⟨#[]⟩, .slice a 0 c, .slice b 0 d]] w (CtlB w kd cr o) := by
  have hm := enc_method203
  have ha := enc_ahead203
  have E1 := (Ext.refl none_ w).alloc (.cells #[.int .i64 0, .string (strOf kd), .bool cr, .bool false, .int .i64 0, .int .i64 0, .int .i64 0, .string ⟨#[]⟩, .string (strOf tx), .string ⟨#[]⟩, .slice a 0 c, .slice b 0 d] 65)
  go_enter Tryz.func25, Tryz.ntmps25
  go_wp2_with fail
  refine (control0_any _ kd tx cr a b c d).mono ?_
  rintro e w2 ⟨g, rfl, hg, E2⟩
  go_wp2_with fail
  refine (encode0_any w2 g kd tx cr hk ht o ho hg).mono ?_
  rintro e w3 ⟨p, cb, n, rfl, hcb, hs⟩
  have E3 := hs.2
  have HW := Lib.hid (enc_bytes w2 w3 p n _ cb _ hs (kids_len _ cb _ _ hcb hk (fun v hv => by rcases ho.out with ⟨_, h⟩ | ⟨_, h⟩ <;> rw [h] at hv <;> cases hv; omega)))
  clear hs
  go_wp2_with fail
  refine HW.out.mono ?_
  rintro e w5 ⟨gb, c5, m5, rfl, hm5, hB, E5⟩
  have hcv := conv_string w5 (some ⟨gb, 0, none⟩) c5 _ (.inr ⟨gb, 0, rfl, hB⟩)
  rw [hm5.out] at hcv
  clear hm ha hB
  go_wp2_with fail
  go_ret2
  exact ⟨cb, hcb, rfl, ((E1.trans E2).trans E3).trans E5⟩
set_option maxHeartbeats 1000000 in
set_option maxRecDepth 100000 in
theorem bytes5_any (w : World) (cr : Bool) (a b : Option Addr) (c d : Nat) :
    Calls Tryz.prog 25 #[.agg #[.int .i64 5, .string ⟨#[]⟩, .bool cr, .bool false, .int .i64 0, .int .i64 0, .int .i64 0, .string ⟨#[]⟩, .string ⟨#[]⟩, .string ⟨#[]⟩, .slice a 0 c, .slice b 0 d]] w (CtlB w kd5 cr none) := by
  have hm := enc_method163
  have ha := enc_ahead163
  have E1 := (Ext.refl none_ w).alloc (.cells #[.int .i64 5, .string ⟨#[]⟩, .bool cr, .bool false, .int .i64 0, .int .i64 0, .int .i64 0, .string ⟨#[]⟩, .string ⟨#[]⟩, .string ⟨#[]⟩, .slice a 0 c, .slice b 0 d] 65)
  go_enter Tryz.func25, Tryz.ntmps25
  go_wp2_with fail
  refine (control5_any _ cr a b c d).mono ?_
  rintro e w2 ⟨g, rfl, hg, E2⟩
  go_wp2_with fail
  refine (encode5_any w2 g cr hg).mono ?_
  rintro e w3 ⟨p, cb, n, rfl, hcb, hs⟩
  have E3 := hs.2
  have HW := Lib.hid (enc_bytes w2 w3 p n _ cb _ hs (kids_len _ cb _ _ hcb (by decide) (fun v hv => by cases hv)))
  clear hs
  go_wp2_with fail
  refine HW.out.mono ?_
  rintro e w5 ⟨gb, c5, m5, rfl, hm5, hB, E5⟩
  have hcv := conv_string w5 (some ⟨gb, 0, none⟩) c5 _ (.inr ⟨gb, 0, rfl, hB⟩)
  rw [hm5.out] at hcv
  clear hm ha hB
  go_wp2_with fail
  go_ret2
  exact ⟨cb, hcb, rfl, ((E1.trans E2).trans E3).trans E5⟩
set_option maxHeartbeats 1000000 in
set_option maxRecDepth 100000 in
theorem bytes8_any (w : World) (a b : Option Addr) (c d : Nat) :
    Calls Tryz.prog 25 #[.agg #[.int .i64 8, .string ⟨#[]⟩, .bool false, .bool false, .int .i64 0, .int .i64 0, .int .i64 0, .string ⟨#[]⟩, .string ⟨#[]⟩, .string ⟨#[]⟩, .slice a 0 c, .slice b 0 d]] w (CtlB w kd8 false none) := by
  have hm := enc_method170
  have ha := enc_ahead170
  have E1 := (Ext.refl none_ w).alloc (.cells #[.int .i64 8, .string ⟨#[]⟩, .bool false, .bool false, .int .i64 0, .int .i64 0, .int .i64 0, .string ⟨#[]⟩, .string ⟨#[]⟩, .string ⟨#[]⟩, .slice a 0 c, .slice b 0 d] 65)
  go_enter Tryz.func25, Tryz.ntmps25
  go_wp2_with fail
  refine (control8_any _ a b c d).mono ?_
  rintro e w2 ⟨g, rfl, E2⟩
  go_wp2_with fail
  refine (encode8_any w2 g).mono ?_
  rintro e w3 ⟨p, cb, n, rfl, hcb, hs⟩
  have E3 := hs.2
  have HW := Lib.hid (enc_bytes w2 w3 p n _ cb _ hs (kids_len _ cb _ _ hcb (by decide) (fun v hv => by cases hv)))
  clear hs
  go_wp2_with fail
  refine HW.out.mono ?_
  rintro e w5 ⟨gb, c5, m5, rfl, hm5, hB, E5⟩
  have hcv := conv_string w5 (some ⟨gb, 0, none⟩) c5 _ (.inr ⟨gb, 0, rfl, hB⟩)
  rw [hm5.out] at hcv
  clear hm ha hB
  go_wp2_with fail
  go_ret2
  exact ⟨cb, hcb, rfl, ((E1.trans E2).trans E3).trans E5⟩
set_option maxHeartbeats 1000000 in
set_option maxRecDepth 100000 in
theorem bytes9_any (w : World) (a b : Option Addr) (c d : Nat) :
    Calls Tryz.prog 25 #[.agg #[.int .i64 9, .string ⟨#[]⟩, .bool false, .bool false, .int .i64 0, .int .i64 0, .int .i64 0, .string ⟨#[]⟩, .string ⟨#[]⟩, .string ⟨#[]⟩, .slice a 0 c, .slice b 0 d]] w (CtlB w kd9 false none) := by
  have hm := enc_method172
  have ha := enc_ahead172
  have E1 := (Ext.refl none_ w).alloc (.cells #[.int .i64 9, .string ⟨#[]⟩, .bool false, .bool false, .int .i64 0, .int .i64 0, .int .i64 0, .string ⟨#[]⟩, .string ⟨#[]⟩, .string ⟨#[]⟩, .slice a 0 c, .slice b 0 d] 65)
  go_enter Tryz.func25, Tryz.ntmps25
  go_wp2_with fail
  refine (control9_any _ a b c d).mono ?_
  rintro e w2 ⟨g, rfl, E2⟩
  go_wp2_with fail
  refine (encode9_any w2 g).mono ?_
  rintro e w3 ⟨p, cb, n, rfl, hcb, hs⟩
  have E3 := hs.2
  have HW := Lib.hid (enc_bytes w2 w3 p n _ cb _ hs (kids_len _ cb _ _ hcb (by decide) (fun v hv => by cases hv)))
  clear hs
  go_wp2_with fail
  refine HW.out.mono ?_
  rintro e w5 ⟨gb, c5, m5, rfl, hm5, hB, E5⟩
  have hcv := conv_string w5 (some ⟨gb, 0, none⟩) c5 _ (.inr ⟨gb, 0, rfl, hB⟩)
  rw [hm5.out] at hcv
  clear hm ha hB
  go_wp2_with fail
  go_ret2
  exact ⟨cb, hcb, rfl, ((E1.trans E2).trans E3).trans E5⟩
set_option maxHeartbeats 1000000 in
set_option maxRecDepth 100000 in
theorem bytes10_any (w : World) (a b : Option Addr) (c d : Nat) :
    Calls Tryz.prog 25 #[.agg #[.int .i64 10, .string ⟨#[]⟩, .bool false, .bool false, .int .i64 0, .int .i64 0, .int .i64 0, .string ⟨#[]⟩, .string ⟨#[]⟩, .string ⟨#[]⟩, .slice a 0 c, .slice b 0 d]] w (CtlB w kd10 false none) := by
  have hm := enc_method174
  have ha := enc_ahead174
  have E1 := (Ext.refl none_ w).alloc (.cells #[.int .i64 10, .string ⟨#[]⟩, .bool false, .bool false, .int .i64 0, .int .i64 0, .int .i64 0, .string ⟨#[]⟩, .string ⟨#[]⟩, .string ⟨#[]⟩, .slice a 0 c, .slice b 0 d] 65)
  go_enter Tryz.func25, Tryz.ntmps25
  go_wp2_with fail
  refine (control10_any _ a b c d).mono ?_
  rintro e w2 ⟨g, rfl, E2⟩
  go_wp2_with fail
  refine (encode10_any w2 g).mono ?_
  rintro e w3 ⟨p, cb, n, rfl, hcb, hs⟩
  have E3 := hs.2
  have HW := Lib.hid (enc_bytes w2 w3 p n _ cb _ hs (kids_len _ cb _ _ hcb (by decide) (fun v hv => by cases hv)))
  clear hs
  go_wp2_with fail
  refine HW.out.mono ?_
  rintro e w5 ⟨gb, c5, m5, rfl, hm5, hB, E5⟩
  have hcv := conv_string w5 (some ⟨gb, 0, none⟩) c5 _ (.inr ⟨gb, 0, rfl, hB⟩)
  rw [hm5.out] at hcv
  clear hm ha hB
  go_wp2_with fail
  go_ret2
  exact ⟨cb, hcb, rfl, ((E1.trans E2).trans E3).trans E5⟩
set_option maxHeartbeats 1000000 in
set_option maxRecDepth 100000 in
theorem bytes1_any (w : World) (num : Nat) (ck : List UInt8) (hnum : num < 2147483648) (hck : ck.length ≤ 40) (a b : Option Addr) (c d : Nat) :
    Calls Tryz.prog 25 #[.agg #[.int .i64 1, .string ⟨#[]⟩, .bool false, .bool false, .int .i64 num, .int .i64 0, .int .i64 0, .string (strOf ck), .string ⟨#[]⟩, .string ⟨#[]⟩, .slice a 0 c, .slice b 0 d]] w (fun e w' => ∃ bs, (1 ≤ bs.length ∧ bs.length ≤ 4) ∧ CtlB w kd1 false (some (pageT bs ck).enc) e w') := by
  have hm := enc_method151
  have ha := enc_ahead151
  have E1 := (Ext.refl none_ w).alloc (.cells #[.int .i64 1, .string ⟨#[]⟩, .bool false, .bool false, .int .i64 num, .int .i64 0, .int .i64 0, .string (strOf ck), .string ⟨#[]⟩, .string ⟨#[]⟩, .slice a 0 c, .slice b 0 d] 65)
  go_enter Tryz.func25, Tryz.ntmps25
  go_wp2_with fail
  refine (control1_any _ num ck hnum hck a b c d).mono ?_
  rintro e w2 ⟨g, ca, cn, cc, rfl, hg, hcn, hB, E2⟩
  go_wp2_with fail
  refine (encode1_any w2 g num ca cn cc ck hnum hcn (by have := hcn.out; omega) hB hg).mono ?_
  rintro e w3 ⟨bs, hbs, p, cb, n, rfl, hcb, hs⟩
  have E3 := hs.2
  have HW := Lib.hid (enc_bytes w2 w3 p n _ cb _ hs (kids_len _ cb _ _ hcb (by decide) (fun v hv => by
    obtain rfl := Option.some.inj hv
    rw [pageT_enc]
    have h1 := encOf_le 0 0 2 bs 4 hbs.2
    have h2 := encOf_le 0 0 4 ck 40 hck
    have h3 := encOf_le 0 32 16 (encOf 0 0 2 bs ++ encOf 0 0 4 ck) 52 (by rw [List.length_append]; omega)
    omega)))
  clear hs
  go_wp2_with fail
  refine HW.out.mono ?_
  rintro e w5 ⟨gb, c5, m5, rfl, hm5, hB, E5⟩
  have hcv := conv_string w5 (some ⟨gb, 0, none⟩) c5 _ (.inr ⟨gb, 0, rfl, hB⟩)
  rw [hm5.out] at hcv
  clear hm ha hB
  go_wp2_with fail
  go_ret2
  exact ⟨bs, hbs, cb, hcb, rfl, ((E1.trans E2).trans E3).trans E5⟩
end Go.Proofs.YtocjfcgailkfjaaGreatDoor
end
