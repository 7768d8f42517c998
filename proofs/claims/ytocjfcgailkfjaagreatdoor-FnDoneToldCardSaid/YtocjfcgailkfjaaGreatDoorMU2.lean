/- FnDoneTold: the row. -/
import Derived.Test.YtocjfcgailkfjaaGreatDoorMR1
import Derived.Test.YtocjfcgailkfjaaGreatDoorMM2

set_option linter.unusedVariables false
set_option linter.unusedSimpArgs false
set_option linter.unusedSectionVars false

section
namespace Go.Proofs.YtocjfcgailkfjaaGreatDoor
open Go.ChangeShapes Go.WideShapes Go.ChangeAt Go.RowKit

set_option maxRecDepth 100000 in
theorem done_lifted (os : Os) (started : os.Started) (H : Type) (enc : TypeId × Value → H) :
    ReturnsInHanded {} Tryz.checked os 5 .any (fun w args => (Rows.fnDoneToldSpec.pre enc Tryz.prog Tryz.f5 [] false w args ∧ laidMetH Tryz.prog Rows.fnEntryToldRow.laid w) ∧ sizedMet enc Tryz.prog Tryz.f5 (OpenSpec.ofChange Rows.fnDoneToldSpec) false w args)
      (Rows.fnDoneToldSpec.post enc Tryz.prog Tryz.f5 false true false false) := by
  refine returnsInHanded_of_change_and (C := Tryz.checked) (X := fun w _ => laidMetH Tryz.prog Rows.fnEntryToldRow.laid w) (fun _ _ _ hh h => h.of_heap hh) own started (by kernel_rfl) Tryz.func5
    (ChangeSpec.witness_shaped (enc := enc) (C := Tryz.checked) (os := os) (X := fun w _ => laidMetH Tryz.prog Rows.fnEntryToldRow.laid w) false (World.laidAll Tryz.prog os Rows.fnEntryToldRow.laid) #[.int .i64 0, .agg #[.int .i64 0, .string ⟨#[]⟩, .string ⟨#[]⟩, .slice none 0 0], .slice none 0 0, .slice none 0 0] 8 (World.laidAll_os _ _ _)
      (World.shaped_of_ZipB (by kernel_rfl) (by kernel_rfl)) (by kernel_rfl) (by kernel_rfl) (by kernel_rfl) (met os _)) ?_
  intro W base args ds gs before hval0 hW hc _ hL _
  have hval : ∀ (j : Nat) t v, Tryz.f5.params[j]? = some t → args[j]? = some v → Value.okWide Tryz.prog W .any base t v := hval0
  have hW' := hW
  have hlt : ∀ x ∈ before, x.block < W.heap.size := fun x hx => hW.lt x hx
  obtain ⟨p, q, hA0, hV, rfl, _, _⟩ := hW
  have hA : DataW.TrodAll enc Tryz.prog W 0 (fun _ => true) true Tryz.f5.params.toList args.toList ds p := hA0
  rw [Tryz.params5] at hA hval
  obtain ⟨v0, v1, v2, v3, d0, d1, d2, d3, p0, p1, p2, p3, rfl, rfl, rfl, h0, h1, h2, h3⟩ := trodAll_four hA
  obtain ⟨rfl, rfl⟩ := trodVars_none hV
  have k0 := h0
  have k1 := h1
  have k2 := h2
  have k3 := h3
  obtain ⟨z, rfl, rfl, rfl, wz⟩ := open_int Tryz.underlying2 (hval 0 2 v0 rfl rfl) h0
  obtain ⟨e0, e1, e2, e3, y0, y1, y2, y3, mm, rfl, _, _, hcode, hm, ht, ha⟩ := Joins.open_agg4 Tryz.underlying53 (by kernel_rfl) c53 (hval 1 53 v1 rfl rfl) h1
  obtain ⟨z1, hz1, _⟩ := DataW.trod_int Tryz.underlying2 hcode
  obtain rfl : e0 = .int .i64 z1 := by simpa using hz1
  obtain ⟨s1, hs1, _, hsl1⟩ := DataW.trod_string Tryz.underlying9 hm
  obtain rfl : e1 = .string s1 := by simpa using hs1
  obtain ⟨s2, hs2, _, hsl2⟩ := DataW.trod_string Tryz.underlying9 ht
  obtain rfl : e2 = .string s2 := by simpa using hs2
  obtain ⟨aa, an, ac, l, rfl, hA1, b1, b5⟩ := strRow_of ha
  obtain ⟨a2, n2, c2', rfl⟩ := okWide_slice Tryz.underlying25 (hval 2 25 v2 rfl rfl)
  obtain ⟨fu2, hf2⟩ := h2
  obtain ⟨ca, cn, cc, pl, hpe, hC1, b2, b6⟩ := pcRow_of hf2
  cases hpe
  obtain ⟨a3, n3, c3', rfl⟩ := okWide_slice Tryz.underlying26 (hval 3 26 v3 rfl rfl)
  obtain ⟨fu3, hf3⟩ := h3
  obtain ⟨ha', hn', hc', ch, hbe, hhl, b3, hH⟩ := bytes_of hf3
  cases hbe
  obtain ⟨ea, hE⟩ := eof_of hL
  have hcall := doneTold_any W ea z z1 s1.data.toList s2.data.toList aa an ac l a2 n2 c2' pl a3 n3 c3' ch hE hA1 hC1 hH hhl b1 b2 b3 (by unfold maxLen at hsl1; rw [Lib.size_eq] at hsl1; omega) (by unfold maxLen at hsl2; rw [Lib.size_eq] at hsl2; omega) b5 b6
  refine hcall.mono fun e W' ⟨he, hE'⟩ => ?_
  subst he
  have hb : Below W.heap.size W W' := hE'.below fun _ _ h => h
  refine ⟨_, rfl, _, _, _, [], [] ++ (p1 ++ (p2 ++ p3)), [], hW', ?_, ?_, ?_, World.keptBut_mono (fun _ h => h) (hb.frame _), fun h => by cases h⟩
  · exact trodAll_mk1 (shut_bool Tryz.underlying4 true)
  · have stay : ∀ (t : TypeId) (v : Value) (d : DataW H) (ps : List MemPlace), Tryz.prog.readableRec t = true → t < Tryz.prog.types.size → DataW.Trod enc Tryz.prog W 0 (fun _ => true) true t v d ps → (∀ x ∈ ps, x.block < W.heap.size) → DataW.Trod enc Tryz.prog W' 0 (fun b => decide (b < W.heap.size)) true t v d ps := fun t v d ps hr hrow h hl => hb.trod laidOut hr hrow h hl
    rw [Tryz.params5]
    exact trodAll_mk4 (stay 2 _ _ _ (by kernel_rfl) (of_decide_eq_true (by kernel_rfl)) k0 (fun x hx => by simp at hx))
      (stay 53 _ _ _ (by kernel_rfl) (of_decide_eq_true (by kernel_rfl)) k1 (fun x hx => hlt x (by simp [hx])))
      (stay 25 _ _ _ (by kernel_rfl) (of_decide_eq_true (by kernel_rfl)) k2 (fun x hx => hlt x (by simp [hx])))
      (stay 26 _ _ _ (by kernel_rfl) (of_decide_eq_true (by kernel_rfl)) k3 (fun x hx => hlt x (by simp [hx])))
  · rfl

end Go.Proofs.YtocjfcgailkfjaaGreatDoor
end
