/- ldapSame of two lists of controls that are the same; slices.Equal of texts that are the same. The trees of the statements are fine: not deep, not long. -/
import Derived.Test.YtocjfcgailkfjaaGreatDoorMJ6
import Derived.BigQuiet
import Derived.Deep.QuietTactic
import Derived.Test.YtocjfcgailkfjaaGreatDoorMJ5

set_option linter.unusedVariables false
set_option linter.unusedSimpArgs false
set_option linter.unusedSectionVars false

section
namespace Go.Proofs.YtocjfcgailkfjaaGreatDoor
open Go.RowKit

set_option maxHeartbeats 400000 in
set_option maxRecDepth 100000 in
theorem equalKeys0 (w : World) (a b : Option Addr) (c d : Nat) : Calls Tryz.prog 45 #[.slice a 0 c, .slice b 0 d] w fun e w' => e = .returned (.bool true) ∧ w = w' := by
  go_enter Tryz.func45, Tryz.ntmps45
  go_wp2_with fail
  refine wp_loop_rounds 1 ?_
  rw [rounds_succ]
  go_wp2_with fail
  go_ret
  exact ⟨rfl, rfl⟩

set_option maxHeartbeats 400000 in
set_option maxRecDepth 100000 in
theorem equalStrs0 (w : World) (a b : Option Addr) (c d : Nat) : Calls Tryz.prog 17 #[.slice a 0 c, .slice b 0 d] w fun e w' => e = .returned (.bool true) ∧ w = w' := by
  go_enter Tryz.func17, Tryz.ntmps17
  go_wp2_with fail
  refine wp_loop_rounds 1 ?_
  rw [rounds_succ]
  go_wp2_with fail
  go_ret
  exact ⟨rfl, rfl⟩

set_option maxHeartbeats 400000 in
set_option maxRecDepth 100000 in
theorem equalStrs_any (w : World) (a b : Option Addr) (n c d : Nat) (l : List (List UInt8)) (h1 : StrRow w a n l) (h2 : StrRow w b n l) (hn : n ≤ 1000) :
    Calls Tryz.prog 17 #[.slice a n c, .slice b n d] w fun e w' => e = .returned (.bool true) ∧ Same w w' := by
  obtain ⟨hln, hl⟩ := h1
  obtain ⟨-, hl2⟩ := h2
  have HN := Lib.hid hln
  clear hln
  go_enter Tryz.func17, Tryz.ntmps17
  go_wp2_with fail
  go_loopw [13] (fun v13 W => ∃ j, j ≤ n ∧ v13 = .int .i64 (j : Nat) ∧ Same w W) (fun v13 _ => n - (intOf v13).toNat)
  case atStart => exact ⟨0, by omega, rfl, Same.refl w⟩
  case round =>
    obtain ⟨j, hj, rfl, hs⟩ := hrel
    by_cases hlt : j < n
    · have hji : (j : Int) < (n : Int) := by omega
      obtain ⟨s, hsj⟩ : ∃ s, l[j]? = some s := ⟨l[j]'(by have := HN.out; omega), List.getElem?_eq_getElem _⟩
      obtain ⟨g, o, rfl, hgl, hcells⟩ := hl.resolve_left (fun e => by rw [e] at hsj; simp at hsj)
      obtain ⟨g2, o2, rfl, hgl2, hcells2⟩ := hl2.resolve_left (fun e => by rw [e] at hsj; simp at hsj)
      obtain ⟨nq, rfl⟩ := hs
      have c1 : (w.drewN nq).cell? ⟨g, o + j, none⟩ = some (.string (strOf s)) := hcells j s hsj
      have c2 : (w.drewN nq).cell? ⟨g2, o2 + j, none⟩ = some (.string (strOf s)) := hcells2 j s hsj
      obtain ⟨W, hW⟩ : ∃ W, W = w.drewN nq := ⟨_, rfl⟩
      have HW := Lib.hid hW
      rw [← hW] at c1 c2 ⊢
      clear hsj hcells hcells2 hW
      go_wp2_with fail
      go_quiet (fail)
      go_wp2_with fail
      go_roundw
      case rel => exact ⟨j + 1, by omega, by go_num, by rw [HW.out]; exact (Same.of _).trans (Same.of _)⟩
      case measure => simp [intOf]; omega
    · have hji : ¬ (j : Int) < (n : Int) := by omega
      go_wp2_with fail
      go_ret
      exact ⟨rfl, hs⟩

set_option maxHeartbeats 800000 in
set_option maxRecDepth 100000 in
theorem same12 (w : World) (k n1 n2 n3 : Int) (ty ck tx id : ByteArray) (cr fl : Bool) (a b a' b' : Option Addr) (c d c' d' : Nat) :
    Calls Tryz.prog 44 #[.agg #[.int .i64 k, .string ty, .bool cr, .bool fl, .int .i64 n1, .int .i64 n2, .int .i64 n3, .string ck, .string tx, .string id, .slice a 0 c, .slice b 0 d],
      .agg #[.int .i64 k, .string ty, .bool cr, .bool fl, .int .i64 n1, .int .i64 n2, .int .i64 n3, .string ck, .string tx, .string id, .slice a' 0 c', .slice b' 0 d']] w fun e w' => e = .returned (.bool true) ∧ Ext none_ w w' := by
  have hb : (cr == cr) = true := by simp
  have hf : (fl == fl) = true := by simp
  go_enter Tryz.func44, Tryz.ntmps44
  go_wp2_with fail
  refine (equalKeys0 _ _ _ _ _).mono ?_
  rintro e w1 ⟨rfl, rfl⟩
  go_wp2_with fail
  refine (equalStrs0 _ _ _ _ _).mono ?_
  rintro e w1 ⟨rfl, rfl⟩
  go_wp2_with fail
  go_ret
  exact ⟨rfl, ((Ext.refl none_ w).alloc _).alloc _⟩

/-- Cells of a row of controls. -/
theorem ctl_cells {w : World} {S : Nat → Prop} {a : Option Addr} {n c : Nat} {l : List UC} (h : Row 65 12 w S (.slice a n c) (l.map c12)) {j : Nat} {x : UC} (hx : l[j]? = some x) :
    ∃ g, a = some ⟨g, 0, none⟩ ∧ g < w.heap.size ∧ w.cell? ⟨g, j * 12, none⟩ = some (.int .i64 0) ∧ w.cell? ⟨g, j * 12 + 1, none⟩ = some (.string (strOf x.1)) ∧ w.cell? ⟨g, j * 12 + 2, none⟩ = some (.bool x.2.1) ∧ w.cell? ⟨g, j * 12 + 3, none⟩ = some (.bool false) ∧
      w.cell? ⟨g, j * 12 + 4, none⟩ = some (.int .i64 0) ∧ w.cell? ⟨g, j * 12 + 5, none⟩ = some (.int .i64 0) ∧ w.cell? ⟨g, j * 12 + 6, none⟩ = some (.int .i64 0) ∧ w.cell? ⟨g, j * 12 + 7, none⟩ = some (.string ⟨#[]⟩) ∧ w.cell? ⟨g, j * 12 + 8, none⟩ = some (.string (strOf x.2.2)) ∧ w.cell? ⟨g, j * 12 + 9, none⟩ = some (.string ⟨#[]⟩) ∧ w.cell? ⟨g, j * 12 + 10, none⟩ = some (.slice none 0 0) ∧ w.cell? ⟨g, j * 12 + 11, none⟩ = some (.slice none 0 0) := by
  obtain ⟨-, -, -, h2⟩ := h.at
  have hv : (l.map c12)[j]? = some (c12 x) := by simp [hx]
  obtain ⟨g, rfl, hg, -, hc⟩ := h2.resolve_left (fun e => by rw [e] at hv; simp at hv)
  exact ⟨g, rfl, hg, hc j 0 _ _ hv rfl, hc j 1 _ _ hv rfl, hc j 2 _ _ hv rfl, hc j 3 _ _ hv rfl, hc j 4 _ _ hv rfl, hc j 5 _ _ hv rfl, hc j 6 _ _ hv rfl, hc j 7 _ _ hv rfl, hc j 8 _ _ hv rfl, hc j 9 _ _ hv rfl, hc j 10 _ _ hv rfl, hc j 11 _ _ hv rfl⟩

set_option maxHeartbeats 1000000 in
set_option maxRecDepth 100000 in
theorem equalFunc_any (w : World) (S1 S2 : Nat → Prop) (a b : Option Addr) (n c d : Nat) (l : List UC) (h1 : Row 65 12 w S1 (.slice a n c) (l.map c12)) (h2 : Row 65 12 w S2 (.slice b n d) (l.map c12)) (hn : n ≤ 1000) (hl : l.length = n) :
    Calls Tryz.prog 43 #[.slice a n c, .slice b n d, .func (.func 44) #[] #[]] w fun e w' => e = .returned (.bool true) ∧ Ext none_ w w' := by
  have H1 := Lib.hid h1
  have H2 := Lib.hid h2
  have HN := Lib.hid hl
  clear h1 h2 hl
  go_enter Tryz.func43, Tryz.ntmps43
  go_wp2_with fail
  go_loopw [7, 8, 9, 17] (fun _ _ _ v17 W => ∃ j, j ≤ n ∧ v17 = .int .i64 (j : Nat) ∧ Ext none_ w W) (fun _ _ _ v17 _ => n - (intOf v17).toNat)
  case atStart => exact ⟨0, by omega, rfl, Ext.refl _ _⟩
  case round =>
    obtain ⟨j, hj, rfl, hE⟩ := hrel
    by_cases hlt : j < n
    · have hji : (j : Int) < (n : Int) := by omega
      obtain ⟨x, hx⟩ : ∃ x, l[j]? = some x := ⟨l[j]'(by have := HN.out; omega), List.getElem?_eq_getElem _⟩
      obtain ⟨g, rfl, hgl, p0, p1, p2, p3, p4, p5, p6, p7, p8, p9, p10, p11⟩ := ctl_cells (H1.out.ext hE) hx
      obtain ⟨g2, rfl, hgl2, r0, r1, r2, r3, r4, r5, r6, r7, r8, r9, r10, r11⟩ := ctl_cells (H2.out.ext hE) hx
      clear hx
      go_wp2_with fail
      have E2 := ((Ext.refl none_ wr).alloc (.cells #[.int .i64 0, .string (strOf x.1), .bool x.2.1, .bool false, .int .i64 0, .int .i64 0, .int .i64 0, .string ⟨#[]⟩, .string (strOf x.2.2), .string ⟨#[]⟩, .slice none 0 0, .slice none 0 0] 65)).alloc (.cells #[.int .i64 0, .string (strOf x.1), .bool x.2.1, .bool false, .int .i64 0, .int .i64 0, .int .i64 0, .string ⟨#[]⟩, .string (strOf x.2.2), .string ⟨#[]⟩, .slice none 0 0, .slice none 0 0] 65)
      refine (same12 _ _ _ _ _ _ _ _ _ _ _ _ _ _ _ _ _ _ _).mono ?_
      rintro e w2 ⟨rfl, E3⟩
      clear p0 p1 p2 p3 p4 p5 p6 p7 p8 p9 p10 p11 r0 r1 r2 r3 r4 r5 r6 r7 r8 r9 r10 r11
      go_wp2_with fail
      go_roundw
      case rel => exact ⟨j + 1, by omega, by go_num, (hE.trans E2).trans E3⟩
      case measure => simp [intOf]; omega
    · have hji : ¬ (j : Int) < (n : Int) := by omega
      go_wp2_with fail
      go_ret
      exact ⟨rfl, hE⟩

set_option maxHeartbeats 400000 in
set_option maxRecDepth 100000 in
theorem ldapSame_any (w : World) (S1 S2 : Nat → Prop) (a b : Option Addr) (n c d : Nat) (l : List UC) (h1 : Row 65 12 w S1 (.slice a n c) (l.map c12)) (h2 : Row 65 12 w S2 (.slice b n d) (l.map c12)) (hn : n ≤ 1000) (hl : l.length = n) :
    Calls Tryz.prog 16 #[.slice a n c, .slice b n d] w fun e w' => e = .returned (.bool true) ∧ Ext none_ w w' := by
  have H := Lib.hid (equalFunc_any w S1 S2 a b n c d l h1 h2 hn hl)
  clear h1 h2
  go_enter Tryz.func16, Tryz.ntmps16
  go_wp2_with fail
  refine H.out.mono ?_
  rintro e w1 ⟨rfl, E⟩
  go_wp2_with fail
  go_ret
  exact ⟨rfl, E⟩

end Go.Proofs.YtocjfcgailkfjaaGreatDoor
end

section
namespace Go.Proofs.YtocjfcgailkfjaaGreatDoor
open Go.RowKit

theorem encOf_length (cc bt tag : Nat) (bs : List UInt8) : (encOf cc bt tag bs).length ≤ bs.length + 4 := by
  have := lenEnc_length bs.length
  simp [encOf]; omega
mutual
theorem T.enc_le : ∀ (t : T), t.enc.length ≤ t.wt
  | .prim cls tag data => by
    simp only [T.enc, T.wt]
    have := encOf_length (cls * 64) 0 tag data
    omega
  | .cons cls tag kids => by
    simp only [T.enc, T.wt]
    have h := encOf_length (cls * 64) 32 tag (T.encL kids)
    have h2 := T.encL_le kids
    omega
theorem T.encL_le : ∀ (ts : List T), (T.encL ts).length ≤ T.wtL ts
  | [] => by simp [T.encL]
  | t :: ts => by
    simp only [T.encL, T.wtL, List.length_append]
    have h := T.enc_le t
    have h2 := T.encL_le ts
    omega
end

/-- A list of trees: fine, at most d deep, of a weight of at most n. -/
def GoodL (ts : List T) (d n : Nat) : Prop := T.fineL ts ∧ T.deepL ts ≤ d ∧ T.wtL ts ≤ n
def Good (t : T) (d n : Nat) : Prop := t.fine ∧ t.deep ≤ d ∧ t.wt ≤ n
theorem GoodL.nil (d n : Nat) : GoodL [] d n := by refine ⟨?_, ?_, ?_⟩ <;> simp [T.fineL, T.deepL, T.wtL]
theorem GoodL.cons {t : T} {ts : List T} {d n m : Nat} (h : Good t d n) (hs : GoodL ts d m) : GoodL (t :: ts) d (n + m) := by
  obtain ⟨a, b, c⟩ := h
  obtain ⟨a', b', c'⟩ := hs
  refine ⟨?_, ?_, ?_⟩
  · simp only [T.fineL]; exact ⟨a, a'⟩
  · simp only [T.deepL]; omega
  · simp only [T.wtL]; omega
theorem GoodL.mono {ts : List T} {d n d' n' : Nat} (h : GoodL ts d n) (hd : d ≤ d') (hn : n ≤ n') : GoodL ts d' n' := ⟨h.1, by have := h.2.1; omega, by have := h.2.2; omega⟩
theorem Good.mono {t : T} {d n d' n' : Nat} (h : Good t d n) (hd : d ≤ d') (hn : n ≤ n') : Good t d' n' := ⟨h.1, by have := h.2.1; omega, by have := h.2.2; omega⟩
theorem GoodL.all {d n : Nat} : ∀ (ts : List T), (∀ t ∈ ts, Good t d n) → GoodL ts d (ts.length * n)
  | [], _ => GoodL.nil _ _
  | t :: ts, h => (GoodL.cons (h t List.mem_cons_self) (GoodL.all ts fun t ht => h t (List.mem_cons_of_mem _ ht))).mono (Nat.le_refl _) (by rw [List.length_cons, Nat.succ_mul]; omega)
theorem Good.built {kids : List T} {d n cls tag : Nat} (h : GoodL kids d n) (hc : cls ≤ 3) (ht : tag < 31) (h0 : tag ≠ 0 ∨ cls ≠ 0) (hn : n ≤ 60000) (hk : kids.length ≤ 60000) : Good (.cons cls tag kids) (d + 1) (n + 12) := by
  obtain ⟨a, b, c⟩ := h
  have h2 := T.encL_le kids
  refine ⟨?_, ?_, ?_⟩
  · unfold T.fine
    exact ⟨hc, ht, h0, by omega, hk, a⟩
  · simp only [T.deep]; omega
  · simp only [T.wt]; omega
theorem Good.octets {s : List UInt8} {n : Nat} (h : s.length ≤ n) (hn : n ≤ 480) : Good (.prim 0 4 s) 0 (n + 12) := by
  refine ⟨?_, ?_, ?_⟩
  · unfold T.fine; exact ⟨by omega, by omega, by omega, fun _ => .inr rfl⟩
  · simp [T.deep]
  · simp only [T.wt]; omega
theorem Good.small {tag : Nat} {s : List UInt8} (ht : tag = 1 ∨ tag = 2 ∨ tag = 10) (h1 : 1 ≤ s.length) (h : s.length ≤ 8) : Good (.prim 0 tag s) 0 20 := by
  refine ⟨?_, ?_, ?_⟩
  · unfold T.fine; exact ⟨by omega, by omega, by omega, fun _ => .inl ⟨ht, h1, h⟩⟩
  · simp [T.deep]
  · simp only [T.wt]; omega

theorem ctl_good (kd vl : List UInt8) (crit told : Bool) (h1 : kd.length ≤ 20) (h2 : vl.length ≤ 40) : Good (ctlT kd crit told vl) 1 120 := by
  unfold ctlT
  have hk : GoodL ((if told || crit then [T.prim 0 1 [if crit then 255 else 0]] else []) ++ [T.prim 0 4 vl]) 0 72 := by
    have hv : GoodL [T.prim 0 4 vl] 0 52 := (GoodL.cons (Good.octets (n := 40) h2 (by omega)) (GoodL.nil 0 0)).mono (Nat.le_refl _) (by omega)
    split
    · exact (GoodL.cons (Good.small (.inl rfl) (by simp) (by simp)) hv).mono (Nat.le_refl _) (by omega)
    · exact hv.mono (Nat.le_refl _) (by omega)
  have hl : ((if told || crit then [T.prim 0 1 [if crit then 255 else 0]] else []) ++ [T.prim 0 4 vl]).length ≤ 2 := by split <;> simp
  exact (Good.built (GoodL.cons (Good.octets (n := 20) h1 (by omega)) hk) (by omega) (by omega) (.inl (by omega)) (by omega) (by simp only [List.length_cons]; omega)).mono (by omega) (by omega)
theorem attr_good (x : AT) (h1 : x.1.length ≤ 30) (h2 : x.2.length ≤ 5) (h3 : ∀ v ∈ x.2, v.length ≤ 100) : Good (attrT x) 2 700 := by
  unfold attrT
  have hk := GoodL.all (d := 0) (n := 112) (x.2.map (T.prim 0 4)) (fun t ht => by
    obtain ⟨v, hv, rfl⟩ := List.mem_map.1 ht
    exact Good.octets (n := 100) (h3 v hv) (by omega))
  rw [List.length_map] at hk
  have hb := Good.built (cls := 0) (tag := 17) hk (by omega) (by omega) (.inl (by omega)) (by omega) (by rw [List.length_map]; omega)
  exact (Good.built (GoodL.cons ((Good.octets (n := 30) h1 (by omega)).mono (Nat.zero_le 1) (Nat.le_refl _)) (GoodL.cons hb (GoodL.nil 1 0))) (by omega) (by omega) (.inl (by omega)) (by omega) (by simp)).mono (by omega) (by omega)
theorem entry_good (name : List UInt8) (l : List AT) (h : EntOk name l) : Good (entryT name l) 4 5000 := by
  obtain ⟨h1, h2, h3⟩ := h
  unfold entryT
  have hk := GoodL.all (d := 2) (n := 700) (l.map attrT) (fun t ht => by
    obtain ⟨v, hv, rfl⟩ := List.mem_map.1 ht
    obtain ⟨a, b, c⟩ := h3 v hv
    exact attr_good v a b c)
  rw [List.length_map] at hk
  have hb := Good.built (cls := 0) (tag := 16) hk (by omega) (by omega) (.inl (by omega)) (by omega) (by rw [List.length_map]; omega)
  exact (Good.built (GoodL.cons ((Good.octets (n := 60) h1 (by omega)).mono (Nat.zero_le 3) (Nat.le_refl _)) (GoodL.cons hb (GoodL.nil 3 0))) (by omega) (by omega) (.inl (by omega)) (by omega) (by simp)).mono (by omega) (by omega)
theorem ctls_good (l : List PCt) (h : l.length ≤ 4) (hv : ∀ x ∈ l, x.2.2.2.length ≤ 40) : GoodL (l.map fun x => ctlTree (pcX x)) 1 480 := by
  have hk := GoodL.all (d := 1) (n := 120) (l.map fun x => ctlTree (pcX x)) (fun t ht => by
    obtain ⟨x, hx, rfl⟩ := List.mem_map.1 ht
    exact ctl_good _ _ _ _ (by simp [pcX, pcU, kindOf]) (hv x hx))
  rw [List.length_map] at hk
  exact hk.mono (Nat.le_refl _) (by omega)
theorem msg_good (bs : List UInt8) (op : T) (ctls : List T) (h1 : 1 ≤ bs.length) (h4 : bs.length ≤ 4) (ho : Good op 4 5000) (hc : GoodL ctls 1 480) (hcl : ctls.length ≤ 100) : (msgT bs op ctls).deep ≤ 800 ∧ (msgT bs op ctls).fine ∧ (msgT bs op ctls).wt ≤ 50000 := by
  have hk : GoodL (if ctls = [] then [] else [T.cons 2 0 ctls]) 4 492 := by
    split
    · exact GoodL.nil _ _
    · exact GoodL.cons ((Good.built hc (cls := 2) (tag := 0) (by omega) (by omega) (.inr (by omega)) (by omega) (by omega)).mono (by omega) (Nat.le_refl _)) (GoodL.nil 4 0)
  have hl : (if ctls = [] then [] else [T.cons 2 0 ctls]).length ≤ 1 := by split <;> simp
  have hg : Good (msgT bs op ctls) 5 6000 := by
    unfold msgT
    exact (Good.built (GoodL.cons ((Good.small (tag := 2) (.inr (.inl rfl)) h1 (by omega)).mono (Nat.zero_le 4) (Nat.le_refl _)) (GoodL.cons ho hk)) (by omega) (by omega) (.inl (by omega)) (by omega) (by simp only [List.cons_append, List.nil_append, List.length_cons]; omega)).mono (by omega) (by omega)
  exact ⟨by have := hg.2.1; omega, hg.1, by have := hg.2.2; omega⟩

end Go.Proofs.YtocjfcgailkfjaaGreatDoor
end
