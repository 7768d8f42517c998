/- FnControlForms: the row. -/
import Derived.Test.YtocjfcgailkfjaaGreatDoorMR1
import Derived.Test.YtocjfcgailkfjaaGreatDoorMV0
import Derived.Test.YtocjfcgailkfjaaGreatDoorMP3

set_option linter.unusedVariables false
set_option linter.unusedSimpArgs false
set_option linter.unusedSectionVars false

section
namespace Go.Proofs.YtocjfcgailkfjaaGreatDoor
open Go.ChangeShapes Go.WideShapes Go.ChangeAt Go.RowKit

set_option maxRecDepth 100000 in
theorem ctlf_lifted (os : Os) (started : os.Started) (H : Type) (enc : TypeId × Value → H) :
    ReturnsInHanded {} Tryz.checked os 6 .any (fun w args => (Rows.fnControlFormsSpec.pre enc Tryz.prog Tryz.f6 [] false w args ∧ laidMetH Tryz.prog Rows.fnEntryToldRow.laid w) ∧ sizedMet enc Tryz.prog Tryz.f6 (OpenSpec.ofChange Rows.fnControlFormsSpec) false w args)
      (Rows.fnControlFormsSpec.post enc Tryz.prog Tryz.f6 false true false false) := by
  refine returnsInHanded_of_change_and (C := Tryz.checked) (X := fun w _ => laidMetH Tryz.prog Rows.fnEntryToldRow.laid w) (fun _ _ _ hh h => h.of_heap hh) own started (by kernel_rfl) Tryz.func6
    (ChangeSpec.witness_shaped (enc := enc) (C := Tryz.checked) (os := os) (X := fun w _ => laidMetH Tryz.prog Rows.fnEntryToldRow.laid w) false (World.laidAll Tryz.prog os Rows.fnEntryToldRow.laid) #[.agg #[.int .i64 0, .string ⟨#[]⟩, .bool false, .bool false, .int .i64 0, .int .i64 0, .int .i64 0, .string ⟨#[]⟩, .string ⟨#[]⟩, .string ⟨#[]⟩, .slice none 0 0, .slice none 0 0], .slice none 0 0] 8 (World.laidAll_os _ _ _)
      (World.shaped_of_ZipB (by kernel_rfl) (by kernel_rfl)) (by kernel_rfl) (by kernel_rfl) (by kernel_rfl) (met os _)) ?_
  intro W base args ds gs before hval0 hW hc _ hL _
  have hval : ∀ (j : Nat) t v, Tryz.f6.params[j]? = some t → args[j]? = some v → Value.okWide Tryz.prog W .any base t v := hval0
  have hW' := hW
  have hlt : ∀ x ∈ before, x.block < W.heap.size := fun x hx => hW.lt x hx
  obtain ⟨p, q, hA0, hV, rfl, _, _⟩ := hW
  have hA : DataW.TrodAll enc Tryz.prog W 0 (fun _ => true) true Tryz.f6.params.toList args.toList ds p := hA0
  rw [Tryz.params6] at hA hval
  obtain ⟨v0, v1, d0, d1, p0, p1, rfl, rfl, rfl, h0, h1⟩ := trodAll_two hA
  obtain ⟨rfl, rfl⟩ := trodVars_none hV
  have k0 := h0
  have k1 := h1
  obtain ⟨fu0, hf0⟩ := h0
  obtain ⟨k, n1, n2, n3, ty, ck, tx, id, cr, fl, ka, ia, kn, kc, inn, ic, lk, li, rfl, hK, hI, b1, b2⟩ := ctl_of (okWide_struct Tryz.underlying65 (hval 0 65 v0 rfl rfl)) hf0
  obtain ⟨a3, n3', c3', rfl⟩ := okWide_slice Tryz.underlying26 (hval 1 26 v1 rfl rfl)
  obtain ⟨fu3, hf3⟩ := h1
  obtain ⟨ha', hn', hc', ch, hbe, hhl, b3, hH⟩ := bytes_of hf3
  cases hbe
  obtain ⟨ea, hE⟩ := eof_of hL
  have hcall := controlForms_any W ea k n1 n2 n3 ty ck tx id cr fl ka ia kn kc inn ic lk li a3 n3' c3' ch hE hK hI hH hhl b1 b2 b3
  refine hcall.mono fun e W' ⟨he, hE'⟩ => ?_
  subst he
  have hb : Below W.heap.size W W' := hE'.below fun _ _ h => h
  refine ⟨_, rfl, _, _, _, [], p0 ++ p1, [], hW', ?_, ?_, ?_, World.keptBut_mono (fun _ h => h) (hb.frame _), fun h => by cases h⟩
  · exact trodAll_mk1 (shut_bool Tryz.underlying4 true)
  · have stay : ∀ (t : TypeId) (v : Value) (d : DataW H) (ps : List MemPlace), Tryz.prog.readableRec t = true → t < Tryz.prog.types.size → DataW.Trod enc Tryz.prog W 0 (fun _ => true) true t v d ps → (∀ x ∈ ps, x.block < W.heap.size) → DataW.Trod enc Tryz.prog W' 0 (fun b => decide (b < W.heap.size)) true t v d ps := fun t v d ps hr hrow h hl => hb.trod laidOut hr hrow h hl
    rw [Tryz.params6]
    exact trodAll_mk2 (stay 65 _ _ _ (by kernel_rfl) (of_decide_eq_true (by kernel_rfl)) k0 (fun x hx => hlt x (by simp [hx])))
      (stay 26 _ _ _ (by kernel_rfl) (of_decide_eq_true (by kernel_rfl)) k1 (fun x hx => hlt x (by simp [hx])))
  · rfl

end Go.Proofs.YtocjfcgailkfjaaGreatDoor
end
