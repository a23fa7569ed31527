import Derived.Test.Qxb6608630aDoorParts
import Derived.Test.Qxb6608630aDoorTable
import Derived.Test.Qxb6608630aDoorCards
import Derived.Test.Qxb6608630aDoorTie
import Derived.SevenTiedAt
namespace Go.Proofs.Qxb6608630aDoor.ByParts
open Go.ChangeShapes Go.WideShapes Go.ChangeAt Go.RowKit

set_option maxRecDepth 100000 in
theorem lifted (os : Os) (started : os.Started) (H : Type) (enc : TypeId × Value → H) :
    ReturnsInHanded {} Tryd.checked os 4 .any (fun w args => (Rows.fnCompatibleByLockPartsSpec.pre enc Tryd.prog Tryd.f4 [] false w args ∧ laidMetH Tryd.prog laid1 w) ∧ sizedMet enc Tryd.prog Tryd.f4 (OpenSpec.ofChange Rows.fnCompatibleByLockPartsSpec) false w args)
      (Rows.fnCompatibleByLockPartsSpec.post enc Tryd.prog Tryd.f4 false true false false) := by
  refine returnsInHanded_of_change_and (C := Tryd.checked) (X := fun w _ => laidMetH Tryd.prog laid1 w) (fun _ _ _ hh h => h.of_heap hh) own started (by kernel_rfl) Tryd.func4
    (ChangeSpec.witness_shaped (enc := enc) (C := Tryd.checked) (os := os) (X := fun w _ => laidMetH Tryd.prog laid1 w) false (World.doorLaid Tryd.prog 2345 os) #[.int .u8 0, .int .u8 0] 8 rfl (World.shaped_of_RefB (by kernel_rfl) (by kernel_rfl)) (by kernel_rfl) (by kernel_rfl) (by kernel_rfl) (door_met os _)) ?_
  intro W base args ds gs before hval0 hW _ _ hL _
  have hval : ∀ (j : Nat) t v, Tryd.f4.params[j]? = some t → args[j]? = some v → Value.okWide Tryd.prog W .any base t v := hval0
  have hW' := hW
  obtain ⟨p, q, hA0, hV, rfl, hfz, hnd⟩ := hW
  have hA : DataW.TrodAll enc Tryd.prog W 0 (fun _ => true) true Tryd.f4.params.toList args.toList ds p := hA0
  rw [Tryd.params4] at hA hval
  obtain ⟨v0, v1, d0, d1, p0, p1, rfl, rfl, rfl, h0, h1⟩ := trodAll_two hA
  obtain ⟨g, t, cs, fuel, d, pv, rfl, hg, ht, hv, hdv, rfl⟩ := trodVars_one hV
  obtain rfl := Option.some.inj (gRules.symm.trans hg)
  obtain rfl := Option.some.inj (tRules.symm.trans ht)
  obtain ⟨a, rfl, rfl, rfl, wa⟩ := open_int Tryd.underlying5 (hval 0 5 v0 rfl rfl) h0
  obtain ⟨b, rfl, rfl, rfl, wb⟩ := open_int Tryd.underlying5 (hval 1 5 v1 rfl rfl) h1
  have ha : 0 ≤ a ∧ a ≤ 255 := bounds_u8 wa
  have hb : 0 ≤ b ∧ b ≤ 255 := bounds_u8 wb
  have hc := of_laid hL
  clear hA0 hval0
  refine (byParts_any a b W ha.1 hb.1 (fun i hi => by
    match i, hi with
    | 0, _ => exact hc 0 (by decide) _ _ _ 0 rfl
    | 1, _ => exact hc 1 (by decide) _ _ _ 746 rfl
    | 2, _ => exact hc 2 (by decide) _ _ _ 608 rfl
    | 3, _ => exact hc 3 (by decide) _ _ _ 26 rfl
    | 4, _ => exact hc 4 (by decide) _ _ _ 24 rfl
    | 5, _ => exact hc 5 (by decide) _ _ _ 486 rfl
    | 6, _ => exact hc 6 (by decide) _ _ _ 486 rfl
    | 7, _ => exact hc 7 (by decide) _ _ _ 226 rfl
    | 8, _ => exact hc 8 (by decide) _ _ _ 96 rfl
    | 9, _ => exact hc 9 (by decide) _ _ _ 998 rfl
    | n + 10, h => omega)).mono fun e W' ⟨he, hw⟩ => ?_
  subst he; subst hw
  exact ⟨_, rfl, post_of_same (pa := []) hW' (fun _ _ _ => trodAll_mk1 (shut_bool Tryd.underlying4 _)) (fun sp _ => trodAll_mk2 (shut_int Tryd.underlying5 wa) (shut_int Tryd.underlying5 wb))
    (fun sp hsp => trodVars_mk1 hg ht hv (DataW.trod_respare kids full fuel 74 _ _ (of_decide_eq_true (by kernel_rfl)) hdv (fun x hx => hsp x (List.mem_append_right _ (List.mem_append_right _ hx))))) rfl
    (World.keptBut_refl _ _) (fun _ => rfl) (ok_one (by kernel_rfl) rfl (okWide_bool_mk Tryd.underlying4 _))⟩

theorem row_holds : Rows.FnCompatibleByLockPartsSaid :=
  OpenClaim.holds_of_wide 4 Tryd.f4 rfl rfl rfl rfl rfl rfl rfl ⟨rfl, rfl, rfl, rfl, rfl⟩ rfl rfl rfl rfl rfl (by kernel_rfl) Tryd.func4 (by kernel_rfl)
    (of_decide_eq_true (by kernel_rfl)) (by unfold Func.isWrapper; first | (rw [if_pos (by decide +kernel)]; kernel_rfl) | (rw [if_neg (by decide +kernel)]; exact ⟨rfl, rfl⟩))
    (fun os started H enc _ => lifted os started H enc)

/-- THE TIED CARD. -/
theorem card_holds : Rows.FnCompatibleByLockPartsCardSaid :=
  Claim7.holds_tied_plain_at .later [] [.called] true (true, "0d8c959aabb512fccceba814a2935d1a6de8118f8fd9c61352b288ca4774bb75") false
    row_holds (fun _ h => by cases h) (by kernel_rfl) (fun _ h => by cases h) fnCompatibleByLockParts_row_tie rfl ⟨rfl, rfl⟩ (by kernel_rfl) rfl
    (fun f fn hf hfn => by
      obtain rfl : f = 4 := Option.some.inj ((show Tryd.prog.funcNamed Rows.fnCompatibleByLockPartsRow.func = some 4 by kernel_rfl).symm.trans hf) |>.symm
      obtain rfl : fn = Tryd.f4 := (Option.some.inj (Tryd.func4.symm.trans hfn)).symm
      exact ⟨by kernel_rfl, fun j t ht => by
        rw [Tryd.params4] at ht
        have hm : t ∈ [5] := by simpa using Array.mem_of_getElem? ht
        have hall : ([5].all fun u => !Tryd.prog.wantsStandIn u) = true := by kernel_rfl
        exact (show Tryd.prog.wantsStandIn t = false by simpa using List.all_eq_true.1 hall t hm)⟩)
    (by kernel_rfl)
end Go.Proofs.Qxb6608630aDoor.ByParts
namespace Go.Proofs.Qxb6608630aDoor
theorem fnCompatibleByLockParts_card : Rows.FnCompatibleByLockPartsCardSaid := ByParts.card_holds
end Go.Proofs.Qxb6608630aDoor
