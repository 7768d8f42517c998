/- readPacket at a constructed value of definite length. readPacket at a constructed value of indefinite length. readPacket reads every fine tree from any of its forms; ReadPacket and impl.read. impl.read: a text's packet. -/
import Derived.Test.YtocjfcgailkfjaaGreatDoorME2

set_option linter.unusedVariables false
set_option linter.unusedSimpArgs false
set_option linter.unusedSectionVars false

section
namespace Go.Proofs.YtocjfcgailkfjaaGreatDoor
open Go.RowKit

/-- A tree is read from any of its forms. -/
def ReadsTo (k : Bool) (r g : Nat) (ea : Addr) (dep : Nat) (t : T) : Prop :=
  ∀ (w : World) (wire rest : List UInt8), Wire t wire → IsRd k w r g (wire ++ rest) → w.cell? ⟨1, 0, none⟩ = some (.iface 310 (.pointer (some ea))) →
    Calls Tryz.prog 111 #[.iface (rdT k) (.pointer (some ⟨r, 0, none⟩)), .int .i64 dep] w fun e w' => ∃ p, e = .returned (.tuple #[.pointer (some ⟨p, 0, none⟩), .int .i64 (wire.length : Nat), .nilIface]) ∧
      PkAt ValOk w' (fun b => w.heap.size ≤ b) t p ∧ IsRd k w' r g rest ∧ Ext (fun b => b = r) w w'

/-- The state at the head of the loop over a packet's children. -/
def LoopSt (w W : World) (k : Bool) (r g : Nat) (p d cc tag : Nat) (kids : List T) (Nb q : Nat) (tail : List UInt8) : Prop :=
  ∃ (dn rm : List T) (ps : List Nat) (wr : List UInt8) (row : Option Nat) (g2 : Nat) (ch : Value), kids = dn ++ rm ∧ WireL rm wr ∧ q + wr.length = Nb ∧
    PkBlk W p cc 32 tag .nilIface (.slice none 0 0) d ch ⟨#[]⟩ ∧ BufAt W d row (T.encL dn) ∧ ChAt W g2 ch ps ∧ (g2 ≠ p ∧ p ≠ d ∧ g2 ≠ d ∧ row ≠ some p ∧ row ≠ some g2) ∧ (w.heap.size ≤ p ∧ w.heap.size ≤ d ∧ w.heap.size ≤ g2 ∧ ∀ kk, row = some kk → w.heap.size ≤ kk) ∧
    PkAtL ValOk W (fun b => w.heap.size ≤ b ∧ b < W.heap.size ∧ b ≠ p ∧ b ≠ d ∧ row ≠ some b ∧ b ≠ g2) dn ps ∧ IsRd k W r g (wr ++ tail) ∧ Ext (fun b => b = r) w W

theorem loop_step {w wr w2 w3 : World} {k : Bool} {r g p d cc tag : Nat} {kids dn ts : List T} {t : T} {ps : List Nat} {a b tail : List UInt8} {N q g2 q2 g' : Nat} {row row' : Option Nat} {ch' : Value}
    (hr : r < w.heap.size) (hg : g < w.heap.size) (hkk : kids = dn ++ t :: ts) (hwl : WireL ts b) (hqN : q + (a ++ b).length = N)
    (hfr : w.heap.size ≤ p ∧ w.heap.size ≤ d ∧ w.heap.size ≤ g2 ∧ ∀ kk, row = some kk → w.heap.size ≤ kk) (hne : g2 ≠ p ∧ p ≠ d ∧ g2 ≠ d ∧ row ≠ some p ∧ row ≠ some g2)
    (hlt : p < wr.heap.size ∧ d < wr.heap.size ∧ g2 < wr.heap.size ∧ ∀ kk, row = some kk → kk < wr.heap.size)
    (hpl0 : PkAtL ValOk wr (fun b => w.heap.size ≤ b ∧ b < wr.heap.size ∧ b ≠ p ∧ b ≠ d ∧ row ≠ some b ∧ b ≠ g2) dn ps) (hE0 : Ext (fun b => b = r) w wr)
    (hpk : PkAt ValOk w2 (fun b => wr.heap.size ≤ b) t q2) (Ew2 : Ext (fun b => b = r) wr w2) (hrd : IsRd k w2 r g (b ++ tail))
    (hp3 : PkBlk w3 p cc 32 tag .nilIface (.slice none 0 0) d ch' ⟨#[]⟩) (hd3 : BufAt w3 d row' (T.encL dn ++ t.enc)) (hch3 : ChAt w3 g' ch' (ps ++ [q2]))
    (hrow' : row' = row ∨ ∃ kk, row' = some kk ∧ w2.heap.size ≤ kk) (hg' : g' = g2 ∨ w2.heap.size ≤ g') (hrg : row' ≠ some g') (E3 : Ext (fun b => b = p ∨ b = d ∨ row = some b ∨ b = g2) w2 w3) :
    LoopSt w w3 k r g p d cc tag kids N (q + a.length) tail := by
  have s0 := hE0.size
  have s2 := Ew2.size
  have s3 := E3.size
  have hrow3 : ∀ kk, row' = some kk → (row = some kk ∧ kk < wr.heap.size) ∨ w2.heap.size ≤ kk := fun kk e => by
    rcases hrow' with rfl | ⟨k', rfl, h⟩
    · exact .inl ⟨e, hlt.2.2.2 kk e⟩
    · cases e; exact .inr h
  refine ⟨dn ++ [t], ts, ps ++ [q2], b, row', g', ch', by rw [hkk]; simp, hwl, by rw [List.length_append] at hqN; omega, hp3, by rw [T.encL_append]; simpa [T.encL] using hd3, hch3, ⟨?_, hne.2.1, ?_, ?_, ?_⟩, ⟨hfr.1, hfr.2.1, ?_, ?_⟩, ?_, ?_, ?_⟩
  · rcases hg' with rfl | h
    · exact hne.1
    · omega
  · rcases hg' with rfl | h
    · exact hne.2.2.1
    · omega
  · intro e
    rcases hrow3 _ e with ⟨h, _⟩ | h
    · exact hne.2.2.2.1 h
    · omega
  · exact hrg
  · rcases hg' with rfl | h
    · exact hfr.2.2.1
    · omega
  · intro kk e
    rcases hrow3 _ e with ⟨h, _⟩ | h
    · exact hfr.2.2.2 kk h
    · omega
  · have key : ∀ b, (w.heap.size ≤ b ∧ b < w3.heap.size ∧ b ≠ p ∧ b ≠ d ∧ row ≠ some b ∧ b ≠ g2) → b < w2.heap.size → w3.heap[b]? = w2.heap[b]? ∧ (w.heap.size ≤ b ∧ b < w3.heap.size ∧ b ≠ p ∧ b ≠ d ∧ row' ≠ some b ∧ b ≠ g') := fun b hb hb2 => by
      refine ⟨E3.block b hb2 (fun h => ?_), hb.1, by omega, hb.2.2.1, hb.2.2.2.1, fun e => ?_, fun e => ?_⟩
      · rcases h with h | h | h | h
        · exact hb.2.2.1 h
        · exact hb.2.2.2.1 h
        · exact hb.2.2.2.2.1 h
        · exact hb.2.2.2.2.2 h
      · rcases hrow' with rfl | ⟨k', rfl, h⟩
        · exact hb.2.2.2.2.1 e
        · cases e; omega
      · rcases hg' with rfl | h
        · exact hb.2.2.2.2.2 e
        · omega
    refine PkAtL.snoc ?_ _ _ ?_
    · refine PkAt.frame (fun b hb hb2 => key b ⟨by omega, by omega, by omega, by omega, fun e => ?_, by omega⟩ hb2) t q2 hpk
      have := hlt.2.2.2 b e
      omega
    · refine PkAtL.frame (fun b hb hb2 => ?_) dn ps hpl0
      have h1 := key b ⟨hb.1, by omega, hb.2.2.1, hb.2.2.2.1, hb.2.2.2.2.1, hb.2.2.2.2.2⟩ (by omega)
      exact ⟨h1.1.trans (Ew2.block b hb2 (by omega)), h1.2⟩
  · refine hrd.ext E3 (fun h => ?_) (fun h => ?_)
    · rcases h with h | h | h | h
      · omega
      · omega
      · have := hfr.2.2.2 _ h; omega
      · omega
    · rcases h with h | h | h | h
      · omega
      · omega
      · have := hfr.2.2.2 _ h; omega
      · omega
  · refine (hE0.trans Ew2).trans' E3 (fun b hb h => ?_)
    rcases h with h | h | h | h
    · omega
    · omega
    · have := hfr.2.2.2 _ h; omega
    · omega

theorem WireL.nil_of {rm : List T} {wr : List UInt8} (h : WireL rm wr) (e : wr.length = 0) : rm = [] := by
  cases h with
  | nil => rfl
  | cons t ts a b h hs => have := h.pos; simp at e; rw [e.1] at this; simp at this

theorem loop_end {w W : World} {k : Bool} {r g p d cc tag N : Nat} {kids : List T} {tail : List UInt8} (H : LoopSt w W k r g p d cc tag kids N N tail) :
    (∃ ps, PkOwn W (fun b => w.heap.size ≤ b) p cc 32 tag .nilIface (T.encL kids) ps ∧ PkAtL ValOk W (fun b => w.heap.size ≤ b) kids ps) ∧ IsRd k W r g tail ∧ Ext (fun b => b = r) w W := by
  obtain ⟨dn, rm, ps, wr0, row, g2, ch, hkk, hwl, hqN, hp, hd, hch, hne, hfr, hpl0, hrd, hE0⟩ := H
  have h0 : wr0.length = 0 := by omega
  have hrm := hwl.nil_of h0
  have hw0 := List.eq_nil_of_length_eq_zero h0
  subst hrm hw0
  rw [List.append_nil] at hkk
  subst hkk
  exact ⟨⟨ps, ⟨d, row, _, g2, ch, _, hp, hd, hch, hne, hfr.1, hfr.2.1, hfr.2.2.1, hfr.2.2.2, ⟨_, _, _, rfl⟩⟩, PkAtL.frame (fun b hb _ => ⟨rfl, hb.1⟩) _ _ hpl0⟩, hrd, hE0⟩

theorem T.fineL_mem : ∀ {ts : List T}, T.fineL ts → ∀ t ∈ ts, t.fine
  | t :: ts, h, x, hx => by
    unfold T.fineL at h
    rcases List.mem_cons.1 hx with rfl | hx
    · exact h.1
    · exact T.fineL_mem h.2 x hx

theorem T.encL_part (dn rm : List T) (n : Nat) (h : (T.encL (dn ++ rm)).length ≤ n) : (T.encL dn).length ≤ n := by
  rw [T.encL_append, List.length_append] at h; omega

set_option maxHeartbeats 1000000 in
set_option maxRecDepth 100000 in
theorem readDefinite (w : World) (k : Bool) (r g : Nat) (dep cc tag : Nat) (kids : List T) (body lf rest : List UInt8) (x : UInt8) (ea : Addr) (N m : Nat)
    (hx : Hid (x.toNat = cc + 32 + tag)) (hc : Hid (cc % 64 = 0)) (hcl : cc < 256) (ht : tag < 31) (hl : LenForm (N : Nat) lf) (hN : Hid (body.length = N)) (hN2 : N ≤ 60000) (hm : Hid (m = lf.length + 1)) (hm20 : m ≤ 20)
    (hdep : dep < 999) (h : IsRd k w r g (x :: (lf ++ (body ++ rest)))) (hE : w.cell? ⟨1, 0, none⟩ = some (.iface 310 (.pointer (some ea)))) (h1r : r ≠ 1)
    (hk : WireL kids body) (hih : Hid (∀ t ∈ kids, ReadsTo k r g ea (dep + 1) t)) (hfine : Hid (T.fineL kids)) (henc : (T.encL kids).length ≤ 60000) (hkl : kids.length ≤ 60000) :
    Calls Tryz.prog 111 #[.iface (rdT k) (.pointer (some ⟨r, 0, none⟩)), .int .i64 dep] w fun e w' => ∃ p, e = .returned (.tuple #[.pointer (some ⟨p, 0, none⟩), .int .i64 (m + N : Nat), .nilIface]) ∧
      (∃ ps, PkOwn w' (fun b => w.heap.size ≤ b) p cc 32 tag .nilIface (T.encL kids) ps ∧ PkAtL ValOk w' (fun b => w.heap.size ≤ b) kids ps) ∧ IsRd k w' r g rest ∧ Ext (fun b => b = r) w w' := by
  have hmk := make_ptrs
  go_enter Tryz.func111, Tryz.ntmps111
  go_wp2_with fail
  refine (readHeader_any w k r g x N lf (body ++ rest) cc 32 tag m hl h hx hc (.inr rfl) ht (fun _ => rfl) hm).mono ?_
  rintro e w1 ⟨rfl, h1, E1⟩
  go_upto_region 12 with fail
  obtain ⟨hr0, hg0, hgr⟩ := h.lt
  refine cutW (fun W => PkBlk W (w1.heap.size + 1) cc 32 tag .nilIface (.slice none 0 0) (w1.heap.size + 1 + 1) (.slice (some ⟨w1.heap.size + 1 + 1 + 1, 0, none⟩) 0 2) ⟨#[]⟩ ∧
    W.heap[w1.heap.size + 1 + 1]? = some (.cells #[.slice none 0 0, .int .i64 0, .int .i8 0] 208 (0, 0)) ∧ W.heap[w1.heap.size + 1 + 1 + 1]? = some (.cells #[.pointer none, .pointer none] 87 (0, 0)) ∧ Ext none_ w1 W) (three_new w1 _ _ _ _) ?_
  rintro W ⟨hp, hd, hg, E2⟩
  have hs1 := E1.size
  have hpl := lt_of_block hp
  have hgl := lt_of_block hg
  have hLS : LoopSt w W k r g (w1.heap.size + 1) (w1.heap.size + 1 + 1) cc tag kids N 0 rest :=
    ⟨[], kids, [], body, none, w1.heap.size + 1 + 1 + 1, _, rfl, hk, by rw [hN.out]; omega, hp, ⟨0, .inl ⟨rfl, rfl, hd⟩⟩, ⟨2, _, rfl, hg, rfl, by simp, by unfold maxLen; omega, fun j q hj => by simp at hj⟩, ⟨by omega, by omega, by omega, by simp, by simp⟩,
      ⟨by omega, by omega, by omega, fun _ h => by cases h⟩, by unfold PkAtL; trivial, h1.ext E2 (fun h => h) (fun h => h), E1.trans (Ext.zero E2)⟩
  have h10 : 1 < w.heap.size := by have := World.block_lt_of_cell? w ⟨1, 0, none⟩ hE; simpa using this
  have c0 := Lib.cell_of_heap hp
  have f0 := Lib.frozen_of_heap hp
  clear h1 h E1 E2 hd hg
  go_wp2_with fail
  clear c0 f0 hp
  go_loopw [9, 12, 13, 14, 15] (fun v9 v12 _ _ _ WW => ∃ q : Nat, v12 = .int .i64 q ∧ v9 = .int .i64 (m + q : Nat) ∧ q ≤ N ∧ Hid (LoopSt w WW k r g (w1.heap.size + 1) (w1.heap.size + 1 + 1) cc tag kids N q rest)) (fun _ v12 _ _ _ _ => N - (intOf v12).toNat)
  case atStart => exact ⟨0, rfl, rfl, by omega, hLS⟩
  case round =>
    obtain ⟨q, rfl, rfl, hq, H⟩ := hrel
    clear hLS
    by_cases hqe : q = N
    · subst hqe
      have HE := Lib.hid (loop_end H.out)
      go_wp2_with fail
      exact bodyPost_ret (v := .tuple #[.pointer (some ⟨w1.heap.size + 1, 0, none⟩), .int .i64 (m + q : Nat), .nilIface]) (by simp [results, Tryz.results111]) rfl ⟨_, rfl, HE.out⟩
    · have hqb : ((q : Int) == (N : Int)) = false := by simp; omega
      obtain ⟨dn, rm, ps, wr0, row, g2, ch, hkk, hwl, hqN, hp, hd, hch, hne, hfr, hpl0, hrd, hE0⟩ := H.out
      clear H
      obtain ⟨t, ts, a, b, rfl, rfl, hta, htb⟩ : ∃ t ts a b, rm = t :: ts ∧ wr0 = a ++ b ∧ Wire t a ∧ WireL ts b := by
        cases hwl with
        | nil => simp at hqN; omega
        | cons t ts a b h hs => exact ⟨t, ts, a, b, rfl, rfl, h, hs⟩
      have htm : t ∈ kids := by rw [hkk]; simp
      have htf := (T.fineL_mem hfine.out t htm).facts
      have hapos := hta.pos
      have hEr : wr.cell? ⟨1, 0, none⟩ = some (.iface 310 (.pointer (some ea))) := by
        rw [hE0.cell (p := ⟨1, 0, none⟩) h10 (fun h => h1r h.symm)]; exact hE
      rw [List.append_assoc] at hrd
      have hcall := hih.out t htm wr a (b ++ rest) hta hrd hEr
      rw [show (((dep + 1 : Nat)) : Int) = (dep : Int) + 1 from rfl] at hcall
      obtain ⟨na, hna⟩ : ∃ na, na = a.length := ⟨_, rfl⟩
      rw [← hna] at hcall hapos
      have hqN' : q + na ≤ N := by rw [List.length_append] at hqN; omega
      have Hna := Lib.hid hna
      have Hkk := Lib.hid hkk
      have HqN := Lib.hid hqN
      have Hht := Lib.hid htf
      have HC := Lib.hid hcall
      have H0 := Lib.hid hpl0
      have hp0 := lt_of_block hp
      have hdl := hd.lt
      have hgl0 := hch.lt
      have hLd : (T.encL dn).length ≤ 60000 := by apply T.encL_part dn (t :: ts); rw [← hkk]; exact henc
      have hLp : ps.length ≤ 60000 := by rw [PkAtL.length _ _ hpl0]; have := congrArg List.length hkk; simp at this; omega
      have hs0 := hE0.size
      clear hna hkk hqN htf hcall hpl0 hEr hrd htm
      go_wp2_with fail
      refine HC.out.mono ?_
      rintro e w2 ⟨q2, rfl, hpk, hrd2, Ew2⟩
      obtain ⟨vq, psq, dq, rowq, bvq, gq, chq, dsq, hq, hqd, hqch, hqr⟩ := hpk.own
      have hs2 := Ew2.size
      have hp2 := hp.ext Ew2 (by omega)
      have hd2 := hd.ext Ew2 (by omega) (fun kk hk => by have := hfr.2.2.2 kk hk; omega)
      have hch2 := hch.ext Ew2 (by omega)
      clear hp hd hch hqr
      go_wp2_with fail
      refine (isEOC_no w2 q2 (t.cls * 64) t.bt t.tag dq vq bvq chq dsq hq (by have := Hht.out.2.2.2.2; exact Lib.hid (this.imp id fun h => by omega)) Hht.out.2.1).mono ?_
      rintro e w2' ⟨rfl, hww⟩
      subst hww
      go_wp2_with fail
      refine (appendChild_any w2' (w1.heap.size + 1) cc 32 tag (w1.heap.size + 1 + 1) g2 .nilIface (.slice none 0 0) ch ⟨#[]⟩ row (T.encL dn) ps q2 (t.cls * 64) t.bt t.tag dq vq bvq chq dsq rowq t.body t.enc (Lib.hid t.enc_eq) hp2 hd2 hch2 hq hqd (Lib.hid ⟨by omega, by have := Hht.out.1; omega⟩) (Lib.hid Hht.out.2.2.2.1) Hht.out.2.1 Hht.out.2.2.1 (by omega) (by omega) hne.1 hne.2.1 hne.2.2.1 hne.2.2.2.1 hne.2.2.2.2).mono ?_
      rintro e w3 ⟨rfl, row', ch', g', hp3, hd3, hch3, hrow', hg', hrg, E3⟩
      have HL := loop_step (tail := rest) hr0 hg0 Hkk.out htb HqN.out hfr hne ⟨hp0, hdl.1, hgl0, fun kk e => (hdl.2 kk e).1⟩ H0.out hE0 hpk Ew2 hrd2 hp3 hd3 hch3 hrow' hg' hrg E3
      rw [← Hna.out] at HL
      have HLS := Lib.hid HL
      clear HL hp2 hd2 hch2 hq hqd hp3 hd3 hch3 hrow' hg' hrg E3 Ew2 hpk hne hfr
      go_wp2_with fail
      go_roundw
      case rel =>
        repeat apply Exists.intro
        refine ⟨⟨q + na, ?_, ?_, hqN', HLS⟩, rfl⟩
        · go_num
        · go_num
      case measure => simp [intOf]; omega

end Go.Proofs.YtocjfcgailkfjaaGreatDoor
end

section
namespace Go.Proofs.YtocjfcgailkfjaaGreatDoor
open Go.RowKit

set_option maxHeartbeats 1000000 in
set_option maxRecDepth 100000 in
theorem readIndefinite (w : World) (k : Bool) (r g : Nat) (dep cc tag : Nat) (kids : List T) (body rest : List UInt8) (x : UInt8) (ea : Addr) (N m n2 : Nat)
    (hx : Hid (x.toNat = cc + 32 + tag)) (hc : Hid (cc % 64 = 0)) (hcl : cc < 256) (ht : tag < 31) (hN : Hid (body.length = N)) (hN2 : N ≤ 60000)
    (hm : Hid (m = 2)) (hm20 : m ≤ 20) (hn2 : Hid (n2 = 2)) (hn20 : n2 ≤ 2) (hdep : dep < 999) (h : IsRd k w r g (x :: ([128] ++ (body ++ ([0, 0] ++ rest))))) (hE : w.cell? ⟨1, 0, none⟩ = some (.iface 310 (.pointer (some ea)))) (h1r : r ≠ 1)
    (hk : WireL kids body) (hih : Hid (∀ t ∈ kids, ReadsTo k r g ea (dep + 1) t)) (hfine : Hid (T.fineL kids)) (henc : (T.encL kids).length ≤ 60000) (hkl : kids.length ≤ 60000) :
    Calls Tryz.prog 111 #[.iface (rdT k) (.pointer (some ⟨r, 0, none⟩)), .int .i64 dep] w fun e w' => ∃ p, e = .returned (.tuple #[.pointer (some ⟨p, 0, none⟩), .int .i64 (m + N + n2 : Nat), .nilIface]) ∧
      (∃ ps, PkOwn w' (fun b => w.heap.size ≤ b) p cc 32 tag .nilIface (T.encL kids) ps ∧ PkAtL ValOk w' (fun b => w.heap.size ≤ b) kids ps) ∧ IsRd k w' r g rest ∧ Ext (fun b => b = r) w w' := by
  have hmk := make_ptrs
  go_enter Tryz.func111, Tryz.ntmps111
  go_wp2_with fail
  refine (readHeader_any w k r g x (-1) [128] (body ++ ([0, 0] ++ rest)) cc 32 tag m (.ind 128 (by decide)) h hx hc (.inr rfl) ht (fun _ => rfl) (Lib.hid hm.out)).mono ?_
  rintro e w1 ⟨rfl, h1, E1⟩
  go_upto_region 12 with fail
  obtain ⟨hr0, hg0, hgr⟩ := h.lt
  refine cutW (fun W => PkBlk W (w1.heap.size + 1) cc 32 tag .nilIface (.slice none 0 0) (w1.heap.size + 1 + 1) (.slice (some ⟨w1.heap.size + 1 + 1 + 1, 0, none⟩) 0 2) ⟨#[]⟩ ∧
    W.heap[w1.heap.size + 1 + 1]? = some (.cells #[.slice none 0 0, .int .i64 0, .int .i8 0] 208 (0, 0)) ∧ W.heap[w1.heap.size + 1 + 1 + 1]? = some (.cells #[.pointer none, .pointer none] 87 (0, 0)) ∧ Ext none_ w1 W) (three_new w1 _ _ _ _) ?_
  rintro W ⟨hp, hd, hg, E2⟩
  have hs1 := E1.size
  have hpl := lt_of_block hp
  have hgl := lt_of_block hg
  have hLS : LoopSt w W k r g (w1.heap.size + 1) (w1.heap.size + 1 + 1) cc tag kids N 0 ([0, 0] ++ rest) :=
    ⟨[], kids, [], body, none, w1.heap.size + 1 + 1 + 1, _, rfl, hk, by rw [hN.out]; omega, hp, ⟨0, .inl ⟨rfl, rfl, hd⟩⟩, ⟨2, _, rfl, hg, rfl, by simp, by unfold maxLen; omega, fun j q hj => by simp at hj⟩, ⟨by omega, by omega, by omega, by simp, by simp⟩,
      ⟨by omega, by omega, by omega, fun _ h => by cases h⟩, by unfold PkAtL; trivial, h1.ext E2 (fun h => h) (fun h => h), E1.trans (Ext.zero E2)⟩
  have h10 : 1 < w.heap.size := by have := World.block_lt_of_cell? w ⟨1, 0, none⟩ hE; simpa using this
  have c0 := Lib.cell_of_heap hp
  have f0 := Lib.frozen_of_heap hp
  clear h1 h E1 E2 hd hg
  go_wp2_with fail
  clear c0 f0 hp
  go_loopw [9, 12, 13, 14, 15] (fun v9 v12 _ _ _ WW => ∃ q : Nat, v12 = .int .i64 q ∧ v9 = .int .i64 (m + q : Nat) ∧ q ≤ N ∧ Hid (LoopSt w WW k r g (w1.heap.size + 1) (w1.heap.size + 1 + 1) cc tag kids N q ([0, 0] ++ rest))) (fun _ v12 _ _ _ _ => N - (intOf v12).toNat)
  case atStart => exact ⟨0, rfl, rfl, by omega, hLS⟩
  case round =>
    obtain ⟨q, rfl, rfl, hq, H⟩ := hrel
    clear hLS
    by_cases hqe : q = N
    · subst hqe
      obtain ⟨⟨ps, hown, hkids⟩, hrd, hE0⟩ := loop_end H.out
      have hcall := readEOC wr k r g (dep + 1) rest (by omega) hrd
      rw [show (((dep + 1 : Nat)) : Int) = (dep : Int) + 1 from rfl] at hcall
      rw [show ((2 : Int)) = ((n2 : Nat) : Int) by rw [hn2.out]; rfl] at hcall
      have HC := Lib.hid hcall
      have HO := Lib.hid hown
      have HK := Lib.hid hkids
      clear hcall H hown hkids hrd
      go_wp2_with fail
      refine HC.out.mono ?_
      rintro e w2 ⟨q2, rfl, ⟨dq, aq, bq, c1, c2, hq⟩, hrd2, Ew2⟩
      have HQ := Lib.hid hq
      clear hq
      go_wp2_with fail
      refine (isEOC_yes w2 q2 dq .nilIface aq bq c1 c2 _ HQ.out).mono ?_
      rintro e w2' ⟨rfl, hww⟩
      subst hww
      go_wp2_with fail
      have hs0 := hE0.size
      refine bodyPost_ret (v := .tuple #[.pointer (some ⟨w1.heap.size + 1, 0, none⟩), .int .i64 (m + q + n2 : Nat), .nilIface]) (by simp [results, Tryz.results111]) rfl ⟨_, rfl, ⟨ps, HO.out.frame fun b hb hb2 => ⟨Ew2.block b hb2 (by omega), hb⟩, PkAtL.frame (fun b hb hb2 => ⟨Ew2.block b hb2 (by omega), hb⟩) _ _ HK.out⟩, hrd2, hE0.trans Ew2⟩
    · have hqb : ((q : Int) == (N : Int)) = false := by simp; omega
      obtain ⟨dn, rm, ps, wr0, row, g2, ch, hkk, hwl, hqN, hp, hd, hch, hne, hfr, hpl0, hrd, hE0⟩ := H.out
      clear H
      obtain ⟨t, ts, a, b, rfl, rfl, hta, htb⟩ : ∃ t ts a b, rm = t :: ts ∧ wr0 = a ++ b ∧ Wire t a ∧ WireL ts b := by
        cases hwl with
        | nil => simp at hqN; omega
        | cons t ts a b h hs => exact ⟨t, ts, a, b, rfl, rfl, h, hs⟩
      have htm : t ∈ kids := by rw [hkk]; simp
      have htf := (T.fineL_mem hfine.out t htm).facts
      have hapos := hta.pos
      have hEr : wr.cell? ⟨1, 0, none⟩ = some (.iface 310 (.pointer (some ea))) := by
        rw [hE0.cell (p := ⟨1, 0, none⟩) h10 (fun h => h1r h.symm)]; exact hE
      rw [List.append_assoc] at hrd
      have hcall := hih.out t htm wr a (b ++ ([0, 0] ++ rest)) hta hrd hEr
      rw [show (((dep + 1 : Nat)) : Int) = (dep : Int) + 1 from rfl] at hcall
      obtain ⟨na, hna⟩ : ∃ na, na = a.length := ⟨_, rfl⟩
      rw [← hna] at hcall hapos
      have hqN' : q + na ≤ N := by rw [List.length_append] at hqN; omega
      have Hna := Lib.hid hna
      have Hkk := Lib.hid hkk
      have HqN := Lib.hid hqN
      have Hht := Lib.hid htf
      have HC := Lib.hid hcall
      have H0 := Lib.hid hpl0
      have hp0 := lt_of_block hp
      have hdl := hd.lt
      have hgl0 := hch.lt
      have hLd : (T.encL dn).length ≤ 60000 := by apply T.encL_part dn (t :: ts); rw [← hkk]; exact henc
      have hLp : ps.length ≤ 60000 := by rw [PkAtL.length _ _ hpl0]; have := congrArg List.length hkk; simp at this; omega
      have hs0 := hE0.size
      clear hna hkk hqN htf hcall hpl0 hEr hrd htm
      go_wp2_with fail
      refine HC.out.mono ?_
      rintro e w2 ⟨q2, rfl, hpk, hrd2, Ew2⟩
      obtain ⟨vq, psq, dq, rowq, bvq, gq, chq, dsq, hq, hqd, hqch, hqr⟩ := hpk.own
      have hs2 := Ew2.size
      have hp2 := hp.ext Ew2 (by omega)
      have hd2 := hd.ext Ew2 (by omega) (fun kk hk => by have := hfr.2.2.2 kk hk; omega)
      have hch2 := hch.ext Ew2 (by omega)
      clear hp hd hch hqr
      go_wp2_with fail
      refine (isEOC_no w2 q2 (t.cls * 64) t.bt t.tag dq vq bvq chq dsq hq (by have := Hht.out.2.2.2.2; exact Lib.hid (this.imp id fun h => by omega)) Hht.out.2.1).mono ?_
      rintro e w2' ⟨rfl, hww⟩
      subst hww
      go_wp2_with fail
      refine (appendChild_any w2' (w1.heap.size + 1) cc 32 tag (w1.heap.size + 1 + 1) g2 .nilIface (.slice none 0 0) ch ⟨#[]⟩ row (T.encL dn) ps q2 (t.cls * 64) t.bt t.tag dq vq bvq chq dsq rowq t.body t.enc (Lib.hid t.enc_eq) hp2 hd2 hch2 hq hqd (Lib.hid ⟨by omega, by have := Hht.out.1; omega⟩) (Lib.hid Hht.out.2.2.2.1) Hht.out.2.1 Hht.out.2.2.1 (by omega) (by omega) hne.1 hne.2.1 hne.2.2.1 hne.2.2.2.1 hne.2.2.2.2).mono ?_
      rintro e w3 ⟨rfl, row', ch', g', hp3, hd3, hch3, hrow', hg', hrg, E3⟩
      have HL := loop_step (tail := [0, 0] ++ rest) hr0 hg0 Hkk.out htb HqN.out hfr hne ⟨hp0, hdl.1, hgl0, fun kk e => (hdl.2 kk e).1⟩ H0.out hE0 hpk Ew2 hrd2 hp3 hd3 hch3 hrow' hg' hrg E3
      rw [← Hna.out] at HL
      have HLS := Lib.hid HL
      clear HL hp2 hd2 hch2 hq hqd hp3 hd3 hch3 hrow' hg' hrg E3 Ew2 hpk hne hfr
      go_wp2_with fail
      go_roundw
      case rel =>
        exact ⟨q + na, by go_num, by go_num, hqN', HLS⟩
      case measure => simp [intOf]; omega

end Go.Proofs.YtocjfcgailkfjaaGreatDoor
end

section
namespace Go.Proofs.YtocjfcgailkfjaaGreatDoor
open Go.RowKit

theorem T.deepL_mem : ∀ {ts : List T} (t : T), t ∈ ts → t.deep ≤ T.deepL ts
  | a :: ts, x, hx => by
    simp only [T.deepL]
    rcases List.mem_cons.1 hx with rfl | hx
    · omega
    · have := T.deepL_mem x hx; omega

theorem reads_prim (k : Bool) (r g : Nat) (ea : Addr) (h1r : r ≠ 1) (cls tag : Nat) (data : List UInt8) (hf : (T.prim cls tag data).fine) (dep : Nat) (hdep : dep < 900) : ReadsTo k r g ea dep (.prim cls tag data) := by
  intro w wire rest hw hrd hE
  cases hw with
  | prim cls tag data lf x hx hl =>
    obtain ⟨f1, f2, f3, f4⟩ := hf
    obtain ⟨-, -, -, hlf⟩ := hl.bounds
    rw [List.cons_append, List.append_assoc] at hrd
    refine (readPrim w k r g dep (cls * 64) tag data lf rest x ea data.length (lf.length + 1) (by rw [hx]; exact Lib.hid rfl) (Lib.hid (by omega)) (by omega) f2 hl rfl f3 rfl (by omega) (by omega) hrd hE h1r cls rfl ?_).mono ?_
    · refine Lib.hid ?_
      by_cases hc : cls = 0
      · refine .inl ⟨by omega, ?_⟩
        rcases f4 hc with ⟨h, h1, h8⟩ | h
        · exact .inl ⟨h, h8⟩
        · exact .inr h
      · exact .inr (by omega)
    · rintro e w' ⟨p, rfl, ⟨val, h1, h2⟩, h3, h4⟩
      refine ⟨p, by rw [show (x :: (lf ++ data)).length = lf.length + 1 + data.length by simp; omega], ?_, h3, h4⟩
      unfold PkAt
      exact ⟨val, h1, h2⟩

theorem reads_any (k : Bool) (r g : Nat) (ea : Addr) (h1r : r ≠ 1) : ∀ (n : Nat) (t : T), t.deep ≤ n → t.fine → ∀ dep, dep + n < 900 → ReadsTo k r g ea dep t := by
  intro n
  induction n with
  | zero =>
    intro t hd hf dep hdep
    cases t with
    | cons cls tag kids => simp [T.deep] at hd
    | prim cls tag data => exact reads_prim k r g ea h1r cls tag data hf dep (by omega)
  | succ n ih =>
    intro t hd hf dep hdep
    cases t with
    | prim cls tag data => exact reads_prim k r g ea h1r cls tag data hf dep (by omega)
    | cons cls tag kids =>
      unfold T.fine at hf
      obtain ⟨f1, f2, f3, f4, f5, f6⟩ := hf
      simp only [T.deep] at hd
      have hih : ∀ t ∈ kids, ReadsTo k r g ea (dep + 1) t := fun t ht => ih t (by have := T.deepL_mem t ht; omega) (T.fineL_mem f6 t ht) (dep + 1) (by omega)
      intro w wire rest hw hrd hE
      cases hw with
      | definite cls tag kids body lf x hx hk hb hl =>
        obtain ⟨-, -, -, hlf⟩ := hl.bounds
        rw [List.cons_append, List.append_assoc] at hrd
        refine (readDefinite w k r g dep (cls * 64) tag kids body lf rest x ea body.length (lf.length + 1) (Lib.hid hx) (Lib.hid (by omega)) (by omega) f2 hl rfl hb rfl (by omega) (by omega) hrd hE h1r hk (Lib.hid hih) (Lib.hid f6) f4 f5).mono ?_
        rintro e w' ⟨p, rfl, ⟨ps, h1, h2⟩, h3, h4⟩
        refine ⟨p, by rw [show (x :: (lf ++ body)).length = lf.length + 1 + body.length by simp; omega], ?_, h3, h4⟩
        unfold PkAt
        exact ⟨ps, h1, h2⟩
      | indefinite cls tag kids body x hx hk hb =>
        have hrd' : IsRd k w r g (x :: ([128] ++ (body ++ ([0, 0] ++ rest)))) := by
          have : x :: ([128] ++ (body ++ [0, 0])) ++ rest = x :: ([128] ++ (body ++ ([0, 0] ++ rest))) := by simp
          rw [← this]; exact hrd
        refine (readIndefinite w k r g dep (cls * 64) tag kids body rest x ea body.length 2 2 (Lib.hid hx) (Lib.hid (by omega)) (by omega) f2 rfl hb rfl (by omega) rfl (by omega) (by omega) hrd' hE h1r hk (Lib.hid hih) (Lib.hid f6) f4 f5).mono ?_
        rintro e w' ⟨p, rfl, ⟨ps, h1, h2⟩, h3, h4⟩
        refine ⟨p, by rw [show (x :: ([128] ++ (body ++ [0, 0]))).length = 2 + body.length + 2 by simp; omega], ?_, h3, h4⟩
        unfold PkAt
        exact ⟨ps, h1, h2⟩

set_option maxHeartbeats 400000 in
set_option maxRecDepth 100000 in
theorem readPacket_top (w : World) (k : Bool) (r g : Nat) (ea : Addr) (t : T) (wire rest : List UInt8) (n : Nat) (hn : Hid (wire.length = n)) (hn2 : n ≤ 100000) (h1r : r ≠ 1) (hd : t.deep ≤ 800) (hf : t.fine) (hw : Wire t wire) (hrd : IsRd k w r g (wire ++ rest)) (hE : w.cell? ⟨1, 0, none⟩ = some (.iface 310 (.pointer (some ea)))) :
    Calls Tryz.prog 61 #[.iface (rdT k) (.pointer (some ⟨r, 0, none⟩))] w fun e w' => ∃ p, e = .returned (.tuple #[.pointer (some ⟨p, 0, none⟩), .nilIface]) ∧
      PkAt ValOk w' (fun b => w.heap.size ≤ b) t p ∧ IsRd k w' r g rest ∧ Ext (fun b => b = r) w w' := by
  have hc := reads_any k r g ea h1r 800 t hd hf 0 (by omega) w wire rest hw hrd hE
  rw [hn.out] at hc
  have HC := Lib.hid hc
  clear hc hrd hE
  go_enter Tryz.func61, Tryz.ntmps61
  go_wp2_with fail
  refine HC.out.mono ?_
  rintro e w' ⟨p, rfl, h1, h2, h3⟩
  have H1 := Lib.hid h1
  clear h1
  go_wp2_with fail
  exact bodyPost_ret (v := .tuple #[.pointer (some ⟨p, 0, none⟩), .nilIface]) (by simp [results, Tryz.results61]) rfl ⟨_, rfl, H1.out, h2, h3⟩

end Go.Proofs.YtocjfcgailkfjaaGreatDoor
end

section
namespace Go.Proofs.YtocjfcgailkfjaaGreatDoor
open Go.RowKit

theorem conv_bytes (w : World) (l : List UInt8) (hl : l.length ≤ 1000000) : ∃ c W', (convert 9 26 (.string (strOf l))).run Tryz.prog w = .ok (.slice (some ⟨w.heap.size, 0, none⟩) l.length c) W' ∧ BytesAt W' w.heap.size 0 l ∧ l.length ≤ c ∧ c ≤ maxLen ∧ Ext none_ w W' ∧ W'.heap.size = w.heap.size + 1 := by
  have h := run_bytes_of_string (P := Tryz.prog) w 9 26 5 (strOf l) Tryz.underlying9 Tryz.underlying26 Tryz.underlying5
  have hsz : (strOf l).size = l.length := by simp [strOf, ByteArray.size]
  rw [hsz] at h
  refine ⟨_, _, h, ⟨_, _, _, heap_new w.drew _, fun j x hj => ?_⟩, grownCap_ge w l.length 0 5, grownCap_le_maxLen w l.length 0 5 (by unfold maxLen; omega), ((Ext.refl none_ w).drew).alloc _, by simp⟩
  unfold bytesRow
  rw [Nat.zero_add, Array.getElem?_append_left (by have := (List.getElem?_eq_some_iff.1 hj).1; simp [strOf]; omega)]
  simp [strOf, hj]

theorem rd_new (W : World) (g n c : Nat) (l : List UInt8) (hB : BytesAt W g 0 l) (hn : l.length = n) (hnc : n ≤ c) (hc : c ≤ maxLen) : IsRd false (W.alloc (.cells #[.slice (some ⟨g, 0, none⟩) n c, .int .i64 0, .int .i64 (-1)] 282)) W.heap.size g l :=
  ⟨n, c, 0, _, heap_new W _, by have := hB.lt; omega, by omega, hnc, hc, hB.ext ((Ext.refl none_ W).alloc _) (fun h => h), rfl⟩

set_option maxHeartbeats 400000 in
set_option maxRecDepth 100000 in
theorem read_any (w : World) (ea : Addr) (t : T) (wire : List UInt8) (n : Nat) (hn : Hid (wire.length = n)) (hn2 : n ≤ 100000) (hd : t.deep ≤ 800) (hf : t.fine) (hw : Wire t wire) (hE : w.cell? ⟨1, 0, none⟩ = some (.iface 310 (.pointer (some ea)))) :
    Calls Tryz.prog 34 #[.string (strOf wire)] w fun e w' => ∃ p, e = .returned (.tuple #[.pointer (some ⟨p, 0, none⟩), .string ⟨#[]⟩]) ∧ PkAt ValOk w' (fun b => w.heap.size ≤ b) t p ∧ Ext none_ w w' := by
  obtain ⟨c, W1, hcv, hB, hlc, hcm, E1, hsz⟩ := conv_bytes w wire (by have := hn.out; omega)
  rw [hn.out] at hcv hlc
  have h10 : 1 < w.heap.size := by have := World.block_lt_of_cell? w ⟨1, 0, none⟩ hE; simpa using this
  have hE1 : W1.cell? ⟨1, 0, none⟩ = some (.iface 310 (.pointer (some ea))) := by rw [E1.cell (p := ⟨1, 0, none⟩) h10 (fun h => h)]; exact hE
  have HB := Lib.hid hB
  have HE := Lib.hid hE1
  have HS := Lib.hid hsz
  clear hB hE1 hE hsz
  go_enter Tryz.func34, Tryz.ntmps34
  go_wp2_with fail
  refine (newReader_any W1 (some ⟨w.heap.size, 0, none⟩) n c).mono ?_
  rintro e w2 ⟨rfl, rfl⟩
  have E2 := (Ext.refl none_ W1).alloc (.cells #[.slice (some ⟨w.heap.size, 0, none⟩) n c, .int .i64 0, .int .i64 (-1)] 282)
  have hrd := rd_new W1 w.heap.size n c wire HB.out hn.out hlc hcm
  have hs := HS.out
  have hcall := readPacket_top (W1.alloc (.cells #[.slice (some ⟨w.heap.size, 0, none⟩) n c, .int .i64 0, .int .i64 (-1)] 282)) false W1.heap.size w.heap.size ea t wire [] n hn hn2 (by omega) hd hf hw (by rw [List.append_nil]; exact hrd) (by rw [E2.cell (p := ⟨1, 0, none⟩) (by show 1 < W1.heap.size; omega) (fun h => h)]; exact HE.out)
  have HC := Lib.hid hcall
  clear hcall hrd hs
  go_wp2_with fail
  refine HC.out.mono ?_
  rintro e w3 ⟨p, rfl, hpk, ⟨n', c', i, x, hr, hgr, hin, hnc, hc2, hB3, hx⟩, E3⟩
  have HP := Lib.hid hpk
  clear hpk
  go_wp2_with fail
  refine (readerLen_end w3 W1.heap.size _ n' c' i x hr (by simp at hin; omega) (by simp at hin; omega)).mono ?_
  rintro e w4 ⟨rfl, hs4⟩
  clear hr hB3 hin
  go_wp2_with fail
  have hs := HS.out
  refine bodyPost_ret (v := .tuple #[.pointer (some ⟨p, 0, none⟩), .string ⟨#[]⟩]) (by simp [results, Tryz.results34]) rfl ⟨_, rfl, PkAt.frame (fun b hb _ => ⟨by rw [hs4.heap], by simp at hb; omega⟩) _ _ HP.out, ?_⟩
  refine ((E1.trans E2).trans' E3 fun b hb h => ?_).trans hs4.ext
  omega

end Go.Proofs.YtocjfcgailkfjaaGreatDoor
end
