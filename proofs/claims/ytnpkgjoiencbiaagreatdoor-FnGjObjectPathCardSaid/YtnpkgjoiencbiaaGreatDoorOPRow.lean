/- FnGjObjectPath, the tied card: for every list of keys and either separator the law returns true, and the list reads behind the call as it read before. Conditions: none but the form's own; the listed package-level variables read as the program's text lays them (the card ties them; they are not read on this road). -/
import Derived.Test.YtnpkgjoiencbiaaGreatDoorOPPure
import Derived.Test.YtnpkgjoiencbiaaGreatDoorCards
import Derived.Test.YtnpkgjoiencbiaaGreatDoorTie
import Derived.ProofKit
import Derived.OpenShut
import Derived.LaidMore
import Derived.Lay
import Derived.SevenTiedAt
import Derived.Stop.Joined
import Derived.SliceStrings
namespace Go.Proofs.YtnpkgjoiencbiaaGreatDoor.OPRow
open Go.ChangeShapes Go.WideShapes Go.ChangeAt Go.RowKit Go.Proofs.YtnpkgjoiencbiaaGreatDoorW.PrintWords Go.Proofs.YtnpkgjoiencbiaaGreatDoor.MOP
set_option linter.unusedVariables false

theorem own : ownKnob Tryz.prog.godebug = none := by kernel_rfl
theorem laidOut : laidOutB Tryz.prog = true := by kernel_rfl

set_option maxRecDepth 100000 in
theorem lifted (os : Os) (started : os.Started) (H : Type) (enc : TypeId × Value → H) :
    ReturnsInHanded {} Tryz.checked os 3 .any (fun w args => (Rows.fnGjObjectPathSpec.pre enc Tryz.prog Tryz.f3 Rows.fnGjObjectPathRow.domain false w args ∧ laidMetH Tryz.prog Rows.fnGjObjectPathRow.laid w) ∧ sizedMet enc Tryz.prog Tryz.f3 (OpenSpec.ofChange Rows.fnGjObjectPathSpec) false w args)
      (Rows.fnGjObjectPathSpec.post enc Tryz.prog Tryz.f3 false true false false) := by
  refine returnsInHanded_of_change_and (C := Tryz.checked) (X := fun w _ => laidMetH Tryz.prog Rows.fnGjObjectPathRow.laid w) (fun _ _ _ hh h => h.of_heap hh) own started (by kernel_rfl) Tryz.func3
    (ChangeSpec.witness_shaped (enc := enc) (C := Tryz.checked) (os := os) (X := fun w _ => laidMetH Tryz.prog Rows.fnGjObjectPathRow.laid w) false (World.laidAll Tryz.prog os Rows.fnGjObjectPathRow.laid) #[.slice none 0 0, .bool false] 8 (World.laidAll_os _ _ _)
      (World.shaped_of_ZipB (by kernel_rfl) (by kernel_rfl)) (by kernel_rfl) (by kernel_rfl) (by kernel_rfl)
      (by rw [MakeChecks.laidMetH_plain _ _ _ (by kernel_rfl)]; exact laidMet_laidAll _ (by kernel_rfl) (by kernel_rfl))) ?_
  intro W base args ds gs before hval0 hW _ _ hL _
  have hval : ∀ (j : Nat) t v, Tryz.f3.params[j]? = some t → args[j]? = some v → Value.okWide Tryz.prog W .any base t v := hval0
  have hW' := hW
  obtain ⟨p, q, hA0, hV, rfl, hfz, hnd⟩ := hW
  have hA : DataW.TrodAll enc Tryz.prog W 0 (fun _ => true) true Tryz.f3.params.toList args.toList ds p := hA0
  rw [Tryz.params3] at hA hval
  obtain ⟨v0, v1, d0, d1, p0, p1, rfl, rfl, rfl, h0, h1⟩ := trodAll_two hA
  obtain ⟨rfl, rfl⟩ := trodVars_none hV
  obtain ⟨a0, len, cap, rfl⟩ := okWide_slice Tryz.underlying22 (hval 0 22 v0 rfl rfl)
  obtain ⟨a1, rfl, rfl, rfl⟩ := open_bool Tryz.underlying4 (hval 1 4 v1 rfl rfl) h1
  have k0 := h0
  have lt0 : ∀ x ∈ p0, x.block < W.heap.size := by obtain ⟨m, hm⟩ := k0; exact DataW.trod_lt m _ _ _ hm
  obtain ⟨ks, hr, hc⟩ : ∃ ks : List (List UInt8), Kd.C Kd.string W a0 (ks.map ML).length (ks.map ML) ∧ (ks.map ML).length ≤ cap ∧ len = (ks.map ML).length := by
    obtain ⟨fuel, hf⟩ := h0
    rcases open_strings Tryz.underlying22 Tryz.underlying9 (by kernel_rfl) hf with ⟨hcs, _⟩ | ⟨x, l, c, ss, hcs, _, hl, hm, hz, _, hcell, hws⟩
    · simp [Value.cells] at hcs
      obtain ⟨rfl, rfl, rfl⟩ := hcs
      exact ⟨[], Kd.C_of_reads (d := ByteArray.empty) ⟨rfl, by simp, fun h => absurd h (by simp)⟩, by simp, rfl⟩
    · simp [Value.cells] at hcs
      obtain ⟨rfl, rfl, rfl⟩ := hcs
      have hz2 : ss.length = cap := by simpa using hz
      have e : (((ss.take len).map fun s => s.data.toList).map ML) = ss.take len := by
        rw [List.map_map]
        conv => rhs; rw [← List.map_id (ss.take len)]
        exact List.map_congr_left fun s _ => ML_data s
      have hlen : (ss.take len).length = len := by rw [List.length_take]; omega
      refine ⟨(ss.take len).map fun s => s.data.toList, ?_, ?_, ?_⟩
      · rw [e]
        refine Kd.C_of_reads (d := ByteArray.empty) ⟨rfl, by rw [hlen]; simp only [maxLen] at hm; omega, fun _ => ⟨x, rfl, fun j hj => ?_⟩⟩
        rw [hlen] at hj
        rw [hcell j (by omega)]
        simp [List.getD_eq_getElem?_getD, hj]
      · rw [e, hlen]; exact hl
      · rw [e, hlen]
  obtain ⟨hc, rfl⟩ := hc
  clear hA0 hval0
  obtain ⟨k, hk⟩ := (law_true ks a1).rounds
  refine (laws_FnGjObjectPath.calls k a0 cap (ks.map ML) a1 true W hr hc hk).mono fun e W' ⟨he, bel⟩ => ?_
  subst he
  exact ⟨_, rfl, _, _, _, [], _, [], hW', trodAll_mk1 (shut_bool Tryz.underlying4 _), trodAll_mk2 (Below.trod laidOut (by kernel_rfl) (of_decide_eq_true (by kernel_rfl)) k0 bel lt0) (shut_bool Tryz.underlying4 _), rfl, bel.frame _, fun h => by cases h⟩

theorem row_holds : Rows.FnGjObjectPathSaid :=
  OpenClaim.holds_of_wide 3 Tryz.f3 rfl rfl rfl rfl rfl rfl rfl ⟨rfl, rfl, rfl, rfl, rfl⟩ rfl rfl rfl rfl rfl (by kernel_rfl) Tryz.func3 (by kernel_rfl)
    (of_decide_eq_true (by kernel_rfl)) (by unfold Func.isWrapper; first | (rw [if_pos (by decide +kernel)]; kernel_rfl) | (rw [if_neg (by decide +kernel)]; exact ⟨rfl, rfl⟩))
    (fun os started H enc _ => lifted os started H enc)
theorem card_holds : Rows.FnGjObjectPathCardSaid :=
  Claim7.holds_tied_plain_at .later [] [.data, .data, .widerDeep, .widerDeep, .data, .data, .data, .data, .data, .data, .sentinel, .sentinel, .data, .data, .pinned, .pinned, .pinned] true (true, "07a8420eccc149c111ba79b0b6149aa8a90cf4ca2af47a99a73676cb240751bf") true row_holds (fun _ h => by cases h) (by kernel_rfl) (fun _ h => by cases h) fnGjObjectPath_row_tie rfl ⟨rfl, rfl⟩ (by kernel_rfl) rfl
    (fun f fn hf hfn => by
      obtain rfl : f = 3 := Option.some.inj ((show Tryz.prog.funcNamed "pub-tetrapla/laws.FnGjObjectPath" = some 3 by kernel_rfl).symm.trans hf) |>.symm
      obtain rfl : fn = Tryz.f3 := (Option.some.inj (Tryz.func3.symm.trans hfn)).symm
      exact ⟨by kernel_rfl, fun j t ht => by
        rw [Tryz.params3] at ht
        have hm : t ∈ [22, 4] := by simpa using Array.mem_of_getElem? ht
        have hall : ([22, 4].all fun u => !Tryz.prog.wantsStandIn u) = true := by kernel_rfl
        exact (show Tryz.prog.wantsStandIn t = false by simpa using List.all_eq_true.1 hall t hm)⟩)
    (by kernel_rfl)
#print axioms card_holds
end Go.Proofs.YtnpkgjoiencbiaaGreatDoor.OPRow
namespace Go.Proofs.YtnpkgjoiencbiaaGreatDoor
/-- The card, under a short name, for the claim. -/
theorem fnGjObjectPath_holds : Rows.FnGjObjectPathCardSaid := OPRow.card_holds
end Go.Proofs.YtnpkgjoiencbiaaGreatDoor
