/-
  OUR OWN WORK. THE ROW AND THE TIED CARD of FnWriteRuneDecodesBack.
-/
import Derived.Test.YoebnwDoorTie
import Derived.Test.YoebnwDoorCards
import Derived.Test.YoebnwDoorLift
import Derived.Test.YoebnwDoorLawD
namespace Go.Proofs.YoebnwDoor
open Go.ChangeShapes Go.WideShapes Go.ChangeAt Go.RowKit

set_option maxRecDepth 100000 in
theorem liftedD (os : Os) (started : os.Started) (H : Type) (enc : TypeId × Value → H) :
    ReturnsInHanded {} Ebng.checked os 6 .any (fun w args => (Rows.fnWriteRuneDecodesBackSpec.pre enc Ebng.prog Ebng.f6 [] false w args ∧ laidMetH Ebng.prog laidL w) ∧ sizedMet enc Ebng.prog Ebng.f6 (OpenSpec.ofChange Rows.fnWriteRuneDecodesBackSpec) false w args)
      (Rows.fnWriteRuneDecodesBackSpec.post enc Ebng.prog Ebng.f6 false true false false) := by
  refine returnsInHanded_of_change_and (C := Ebng.checked) (X := fun w _ => laidMetH Ebng.prog laidL w) (fun _ _ _ hh h => h.of_heap hh) own started (by kernel_rfl) Ebng.func6
    (ChangeSpec.witness_shaped (enc := enc) (C := Ebng.checked) (os := os) (X := fun w _ => laidMetH Ebng.prog laidL w) false (World.doorLaid Ebng.prog 32 os) #[.slice none 0 0, .slice none 0 0] 8 rfl (World.shaped_of_RefB (by kernel_rfl) (by kernel_rfl)) (by kernel_rfl) (by kernel_rfl) (by kernel_rfl) (door_met os _)) ?_
  intro W base args ds gs before hval0 hW _ _ hL _
  have hval : ∀ (j : Nat) t v, Ebng.f6.params[j]? = some t → args[j]? = some v → Value.okWide Ebng.prog W .any base t v := hval0
  have hW' := hW
  obtain ⟨p, q, hA0, hV0, rfl, hfz, hnd⟩ := hW
  have hA : DataW.TrodAll enc Ebng.prog W 0 (fun _ => true) true Ebng.f6.params.toList args.toList ds p := hA0
  have hV : DataW.TrodVars enc Ebng.prog W (fun _ => true) [nMax, nErr] gs q := hV0
  rw [Ebng.params6] at hA hval
  obtain ⟨v0, v1, d0, d1, p0, p1, rfl, rfl, rfl, h0, h1⟩ := trodAll_two hA
  obtain ⟨a0, len0, cap0, rfl⟩ := okWide_slice Ebng.underlying22 (hval 0 22 v0 rfl rfl)
  obtain ⟨a1, len1, cap1, rfl⟩ := okWide_slice Ebng.underlying31 (hval 1 31 v1 rfl rfl)
  have lt0 : ∀ x ∈ p0, x.block < W.heap.size := by obtain ⟨m, hm⟩ := h0; exact DataW.trod_lt m _ _ _ hm
  have lt1 : ∀ x ∈ p1, x.block < W.heap.size := by obtain ⟨m, hm⟩ := h1; exact DataW.trod_lt m _ _ _ hm
  obtain ⟨bs, rfl, hview, hcap, _⟩ := view_of_trod Ebng.underlying22 Ebng.underlying5 (by kernel_rfl) h0
  obtain ⟨rs, rfl, hview1, _, hwf⟩ := view_of_trod Ebng.underlying31 Ebng.underlying21 (by kernel_rfl) h1
  obtain ⟨g1, g2, rfl, hagain⟩ := vars_again hV
  have hg := of_laid hL
  clear hA0 hval0 hV0
  refine (lawD_any a0 cap0 bs a1 cap1 rs W hview hcap hview1 (fun x hx => (bounds_i32 (hwf x hx)).2) 2147483647 (by decide) hg).mono fun e W' ⟨he, bel⟩ => ?_
  subst he
  exact ⟨_, rfl, _, _, _, [], _, [.cell 0 0, .cell 1 0], hW', trodAll_mk1 (shut_bool Ebng.underlying4 _), trodAll_mk2 (Below.trod laidOut (by kernel_rfl) (of_decide_eq_true (by kernel_rfl)) h0 bel lt0) (Below.trod laidOut (by kernel_rfl) (of_decide_eq_true (by kernel_rfl)) h1 bel lt1), hagain W' _ bel, bel.frame _, fun h => by cases h⟩

theorem overD : Rows.FnWriteRuneDecodesBackSaid :=
  OpenClaim.holds_of_wide 6 Ebng.f6 rfl rfl rfl rfl rfl rfl rfl ⟨rfl, rfl, rfl, rfl, rfl⟩ rfl rfl rfl rfl rfl (by kernel_rfl) Ebng.func6 (by kernel_rfl)
    (of_decide_eq_true (by kernel_rfl)) (by unfold Func.isWrapper; first | (rw [if_pos (by decide +kernel)]; kernel_rfl) | (rw [if_neg (by decide +kernel)]; exact ⟨rfl, rfl⟩))
    (fun os started H enc _ => liftedD os started H enc)

/-- THE TIED CARD. -/
theorem cardD : Rows.FnWriteRuneDecodesBackCardSaid :=
  Claim7.holds_tied_plain_at .later [] [.called, .data] true (true, "2424771939185dd4be1b88d4a1e23d10cd4be4208b3e150799c019e584f63a82") false
    overD (fun _ h => by cases h) (by kernel_rfl) (fun _ h => by cases h) fnWriteRuneDecodesBack_row_tie rfl ⟨rfl, rfl⟩ (by kernel_rfl) rfl
    (fun f fn hf hfn => by
      obtain rfl : f = 6 := Option.some.inj ((show Ebng.prog.funcNamed Rows.fnWriteRuneDecodesBackRow.func = some 6 by kernel_rfl).symm.trans hf) |>.symm
      obtain rfl : fn = Ebng.f6 := (Option.some.inj (Ebng.func6.symm.trans hfn)).symm
      exact ⟨by kernel_rfl, fun j t ht => by
        rw [Ebng.params6] at ht
        have hm : t ∈ [22, 31] := by simpa using Array.mem_of_getElem? ht
        have hall : ([22, 31].all fun u => !Ebng.prog.wantsStandIn u) = true := by kernel_rfl
        exact (show Ebng.prog.wantsStandIn t = false by simpa using List.all_eq_true.1 hall t hm)⟩)
    (by kernel_rfl)
end Go.Proofs.YoebnwDoor
