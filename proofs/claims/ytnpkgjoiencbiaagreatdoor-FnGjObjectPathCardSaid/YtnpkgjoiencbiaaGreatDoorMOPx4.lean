-- written by a program of this session (wip/myprint.py, a driver over the kit's print); Lean checks it
import Derived.Test.YtnpkgjoiencbiaaGreatDoorMOPx0
import Derived.Test.YtnpkgjoiencbiaaGreatDoorMOPx1
import Derived.Test.YtnpkgjoiencbiaaGreatDoorMOPx3
namespace Go.Proofs.YtnpkgjoiencbiaaGreatDoor.MOP
open Go.RowKit Go.Proofs.YtnpkgjoiencbiaaGreatDoorW.PrintWords Go.Proofs.YtnpkgjoiencbiaaGreatDoorW.PrintLast Go.Proofs.YtnpkgjoiencbiaaGreatDoorW.PrintMore
attribute [local go_sem] max2_int min2_int max_two min_two max_three min_three max_four min_four   -- for this text's walks alone
set_option linter.unusedVariables false
set_option linter.unusedSimpArgs false

/-! ### gjson_DoorObjectPath: function 9 -/
def gjson_DoorObjectPath.f (k : Nat) (a0 : ByteArray) : Option (ByteArray × ByteArray × ByteArray × Bool × Bool × Bool) := (gjson_parseObjectPath.f k a0).bind fun bt139 => (some (bt139.1, bt139.2.1, bt139.2.2.1, bt139.2.2.2.1, bt139.2.2.2.2.1, bt139.2.2.2.2.2))
theorem gjson_DoorObjectPath.mono : ∀ a0 k, LeO (gjson_DoorObjectPath.f k a0) (gjson_DoorObjectPath.f (k + 1) a0) := by
  intro a0 k
  unfold gjson_DoorObjectPath.f
  repeat' first
      | (with_reducible exact gjson_parseObjectPath.mono _ _)
      | (with_reducible exact LeO.refl _)
      | (with_reducible exact LeO.none _)
      | (with_reducible refine LeO.ite ?_ ?_)
      | (with_reducible refine LeO.bind ?_ (fun _ => ?_))
      | exact gjson_parseObjectPath.mono _ _
      | exact LeO.none _
      | refine LeO.ite ?_ ?_
      | refine LeO.bind ?_ (fun _ => ?_)
set_option maxHeartbeats 8000000 in
set_option maxRecDepth 100000 in
theorem gjson_DoorObjectPath.calls (k : Nat) (a0 : ByteArray) (r1 : ByteArray) (r2 : ByteArray) (r3 : ByteArray) (r4 : Bool) (r5 : Bool) (r6 : Bool) (w : World) (h : gjson_DoorObjectPath.f k a0 = some (r1, r2, r3, r4, r5, r6)) :
    Calls Tryz.prog 9 #[.string a0] w fun e w' => e = .returned (.tuple #[.string r1, .string r2, .string r3, .bool r4, .bool r5, .bool r6]) ∧ Below w.heap.size w w' := by
  have hu31 := Tryz.underlying31
  have HB := Aside0.mk (Below.refl w.heap.size w)
  have H : ((gjson_parseObjectPath.f k a0).bind fun bt139 => (some (bt139.1, bt139.2.1, bt139.2.2.1, bt139.2.2.2.1, bt139.2.2.2.2.1, bt139.2.2.2.2.2))) = some (r1, r2, r3, r4, r5, r6) := h
  clear h
  replace H := Option.bind_eq_some_iff.mp H
  obtain ⟨⟨t139, t140, t141, t142, t143, t144⟩, A20, H⟩ := H
  replace H : (some (t139, t140, t141, t142, t143, t144)) = some (r1, r2, r3, r4, r5, r6) := H
  have A2 := Aside0.mk A20
  clear A20
  simp only [Option.some.injEq, Prod.mk.injEq] at H
  obtain ⟨rfl, rfl, rfl, rfl, rfl, rfl⟩ := H
  go_enter Tryz.func9, Tryz.ntmps9
  go_wp2_with (first | (go_at_call 11; (with_reducible refine (gjson_parseObjectPath.calls k a0 t139 t140 t141 t142 t143 t144 _ A2.out).mono ?_); rintro e w3 ⟨rfl, hb⟩; have n0_ := Aside0.mk (below_step (by repeat (first | (with_reducible first | exact HB.out | apply below_alloc | apply pw_below_drewN | apply below_drew1) | exact HB.out)) hb); clear HB; have HB := n0_; clear n0_; (try clear hb); (try clear hb2); (try clear hk); (try clear hi)) | ((with_reducible refine gate_dst (N := 8) rfl ?_); refine box_event ?hg (N := 8) ?hd (cs := #[.string (⟨#[]⟩ : ByteArray), .string (⟨#[]⟩ : ByteArray), .string (⟨#[]⟩ : ByteArray), .bool false, .bool false, .bool false]) (t := 31) ?hr ?_; (case hd => rfl); (case hg => rfl); (case hr => first | (go_simp; done) | (go_simp; rfl)); intro gb145 hg w4 hbox hb; have n0_ := Aside0.mk (below_step (by repeat (first | (with_reducible first | exact HB.out | apply below_alloc | apply pw_below_drewN | apply below_drew1) | exact HB.out)) hb); have n1_ := Aside0.mk (hbox); have n2_ := Aside0.mk ((by rw [hg]; exact (below_size (by repeat (first | (with_reducible first | exact HB.out | apply below_alloc | apply pw_below_drewN | apply below_drew1) | exact HB.out))) : w.heap.size ≤ gb145)); have n3_ := Aside0.mk ((by rw [hg]; exact (below_size (by repeat (first | (with_reducible first | exact HB.out | apply below_alloc | apply pw_below_drewN | apply below_drew1) | exact HB.out))) : w.heap.size ≤ gb145)); clear HB; have HB := n0_; have BK145 := n1_; have GW145 := n2_; have GE145 := n3_; clear n0_ n1_ n2_ n3_; clear hb hbox hg; have hcz5_0 : w4.cell? ⟨gb145, 0, none⟩ = some (.string (⟨#[]⟩ : ByteArray)) := (blk_cell BK145.out 0).trans rfl; have hcz5_1 : w4.cell? ⟨gb145, 1, none⟩ = some (.string (⟨#[]⟩ : ByteArray)) := (blk_cell BK145.out 1).trans rfl; have hcz5_2 : w4.cell? ⟨gb145, 2, none⟩ = some (.string (⟨#[]⟩ : ByteArray)) := (blk_cell BK145.out 2).trans rfl; have hcz5_3 : w4.cell? ⟨gb145, 3, none⟩ = some (.bool false) := (blk_cell BK145.out 3).trans rfl; have hcz5_4 : w4.cell? ⟨gb145, 4, none⟩ = some (.bool false) := (blk_cell BK145.out 4).trans rfl; have hcz5_5 : w4.cell? ⟨gb145, 5, none⟩ = some (.bool false) := (blk_cell BK145.out 5).trans rfl; have hfz5_0 := blk_frozen BK145.out 0; have hfz5_1 := blk_frozen BK145.out 1; have hfz5_2 := blk_frozen BK145.out 2; have hfz5_3 := blk_frozen BK145.out 3; have hfz5_4 := blk_frozen BK145.out 4; have hfz5_5 := blk_frozen BK145.out 5))
  repeat (go_quiet (first | (go_at_call 11; (with_reducible refine (gjson_parseObjectPath.calls k a0 t139 t140 t141 t142 t143 t144 _ A2.out).mono ?_); rintro e w3 ⟨rfl, hb⟩; have n0_ := Aside0.mk (below_step (by repeat (first | (with_reducible first | exact HB.out | apply below_alloc | apply pw_below_drewN | apply below_drew1) | exact HB.out)) hb); clear HB; have HB := n0_; clear n0_; (try clear hb); (try clear hb2); (try clear hk); (try clear hi)) | ((with_reducible refine gate_dst (N := 8) rfl ?_); refine box_event ?hg (N := 8) ?hd (cs := #[.string (⟨#[]⟩ : ByteArray), .string (⟨#[]⟩ : ByteArray), .string (⟨#[]⟩ : ByteArray), .bool false, .bool false, .bool false]) (t := 31) ?hr ?_; (case hd => rfl); (case hg => rfl); (case hr => first | (go_simp; done) | (go_simp; rfl)); intro gb145 hg w4 hbox hb; have n0_ := Aside0.mk (below_step (by repeat (first | (with_reducible first | exact HB.out | apply below_alloc | apply pw_below_drewN | apply below_drew1) | exact HB.out)) hb); have n1_ := Aside0.mk (hbox); have n2_ := Aside0.mk ((by rw [hg]; exact (below_size (by repeat (first | (with_reducible first | exact HB.out | apply below_alloc | apply pw_below_drewN | apply below_drew1) | exact HB.out))) : w.heap.size ≤ gb145)); have n3_ := Aside0.mk ((by rw [hg]; exact (below_size (by repeat (first | (with_reducible first | exact HB.out | apply below_alloc | apply pw_below_drewN | apply below_drew1) | exact HB.out))) : w.heap.size ≤ gb145)); clear HB; have HB := n0_; have BK145 := n1_; have GW145 := n2_; have GE145 := n3_; clear n0_ n1_ n2_ n3_; clear hb hbox hg; have hcz5_0 : w4.cell? ⟨gb145, 0, none⟩ = some (.string (⟨#[]⟩ : ByteArray)) := (blk_cell BK145.out 0).trans rfl; have hcz5_1 : w4.cell? ⟨gb145, 1, none⟩ = some (.string (⟨#[]⟩ : ByteArray)) := (blk_cell BK145.out 1).trans rfl; have hcz5_2 : w4.cell? ⟨gb145, 2, none⟩ = some (.string (⟨#[]⟩ : ByteArray)) := (blk_cell BK145.out 2).trans rfl; have hcz5_3 : w4.cell? ⟨gb145, 3, none⟩ = some (.bool false) := (blk_cell BK145.out 3).trans rfl; have hcz5_4 : w4.cell? ⟨gb145, 4, none⟩ = some (.bool false) := (blk_cell BK145.out 4).trans rfl; have hcz5_5 : w4.cell? ⟨gb145, 5, none⟩ = some (.bool false) := (blk_cell BK145.out 5).trans rfl; have hfz5_0 := blk_frozen BK145.out 0; have hfz5_1 := blk_frozen BK145.out 1; have hfz5_2 := blk_frozen BK145.out 2; have hfz5_3 := blk_frozen BK145.out 3; have hfz5_4 := blk_frozen BK145.out 4; have hfz5_5 := blk_frozen BK145.out 5)); try go_wp2_with (first | (go_at_call 11; (with_reducible refine (gjson_parseObjectPath.calls k a0 t139 t140 t141 t142 t143 t144 _ A2.out).mono ?_); rintro e w3 ⟨rfl, hb⟩; have n0_ := Aside0.mk (below_step (by repeat (first | (with_reducible first | exact HB.out | apply below_alloc | apply pw_below_drewN | apply below_drew1) | exact HB.out)) hb); clear HB; have HB := n0_; clear n0_; (try clear hb); (try clear hb2); (try clear hk); (try clear hi)) | ((with_reducible refine gate_dst (N := 8) rfl ?_); refine box_event ?hg (N := 8) ?hd (cs := #[.string (⟨#[]⟩ : ByteArray), .string (⟨#[]⟩ : ByteArray), .string (⟨#[]⟩ : ByteArray), .bool false, .bool false, .bool false]) (t := 31) ?hr ?_; (case hd => rfl); (case hg => rfl); (case hr => first | (go_simp; done) | (go_simp; rfl)); intro gb145 hg w4 hbox hb; have n0_ := Aside0.mk (below_step (by repeat (first | (with_reducible first | exact HB.out | apply below_alloc | apply pw_below_drewN | apply below_drew1) | exact HB.out)) hb); have n1_ := Aside0.mk (hbox); have n2_ := Aside0.mk ((by rw [hg]; exact (below_size (by repeat (first | (with_reducible first | exact HB.out | apply below_alloc | apply pw_below_drewN | apply below_drew1) | exact HB.out))) : w.heap.size ≤ gb145)); have n3_ := Aside0.mk ((by rw [hg]; exact (below_size (by repeat (first | (with_reducible first | exact HB.out | apply below_alloc | apply pw_below_drewN | apply below_drew1) | exact HB.out))) : w.heap.size ≤ gb145)); clear HB; have HB := n0_; have BK145 := n1_; have GW145 := n2_; have GE145 := n3_; clear n0_ n1_ n2_ n3_; clear hb hbox hg; have hcz5_0 : w4.cell? ⟨gb145, 0, none⟩ = some (.string (⟨#[]⟩ : ByteArray)) := (blk_cell BK145.out 0).trans rfl; have hcz5_1 : w4.cell? ⟨gb145, 1, none⟩ = some (.string (⟨#[]⟩ : ByteArray)) := (blk_cell BK145.out 1).trans rfl; have hcz5_2 : w4.cell? ⟨gb145, 2, none⟩ = some (.string (⟨#[]⟩ : ByteArray)) := (blk_cell BK145.out 2).trans rfl; have hcz5_3 : w4.cell? ⟨gb145, 3, none⟩ = some (.bool false) := (blk_cell BK145.out 3).trans rfl; have hcz5_4 : w4.cell? ⟨gb145, 4, none⟩ = some (.bool false) := (blk_cell BK145.out 4).trans rfl; have hcz5_5 : w4.cell? ⟨gb145, 5, none⟩ = some (.bool false) := (blk_cell BK145.out 5).trans rfl; have hfz5_0 := blk_frozen BK145.out 0; have hfz5_1 := blk_frozen BK145.out 1; have hfz5_2 := blk_frozen BK145.out 2; have hfz5_3 := blk_frozen BK145.out 3; have hfz5_4 := blk_frozen BK145.out 4; have hfz5_5 := blk_frozen BK145.out 5)))
  refine bodyPost_ret (results_list (rs := [.tmp 2, .tmp 3, .tmp 4, .tmp 5, .tmp 6, .tmp 7]) rfl (by simp) (.tmp (.tmp (.tmp (.tmp (.tmp (.tmp .nil))))))) rfl ?_
  exact ⟨by first | rfl | (simp [errW_none, errW_some] <;> rfl) | (simp [*, errW_none, errW_some] <;> rfl), by repeat (first | (with_reducible first | exact HB.out | apply below_alloc | apply pw_below_drewN | apply below_drew1 | refine below_set ?_ GE145.out) | exact HB.out)⟩

/-! ### impl_GjObjectPath: function 7 -/
def impl_GjObjectPath.f (k : Nat) (a0 : ByteArray) : Option (ByteArray × ByteArray × ByteArray × Bool × Bool × Bool) := (gjson_DoorObjectPath.f k a0).bind fun bt146 => (some (bt146.1, bt146.2.1, bt146.2.2.1, bt146.2.2.2.1, bt146.2.2.2.2.1, bt146.2.2.2.2.2))
theorem impl_GjObjectPath.mono : ∀ a0 k, LeO (impl_GjObjectPath.f k a0) (impl_GjObjectPath.f (k + 1) a0) := by
  intro a0 k
  unfold impl_GjObjectPath.f
  repeat' first
      | (with_reducible exact gjson_DoorObjectPath.mono _ _)
      | (with_reducible exact LeO.refl _)
      | (with_reducible exact LeO.none _)
      | (with_reducible refine LeO.ite ?_ ?_)
      | (with_reducible refine LeO.bind ?_ (fun _ => ?_))
      | exact gjson_DoorObjectPath.mono _ _
      | exact LeO.none _
      | refine LeO.ite ?_ ?_
      | refine LeO.bind ?_ (fun _ => ?_)
set_option maxHeartbeats 8000000 in
set_option maxRecDepth 100000 in
theorem impl_GjObjectPath.calls (k : Nat) (a0 : ByteArray) (r1 : ByteArray) (r2 : ByteArray) (r3 : ByteArray) (r4 : Bool) (r5 : Bool) (r6 : Bool) (w : World) (h : impl_GjObjectPath.f k a0 = some (r1, r2, r3, r4, r5, r6)) :
    Calls Tryz.prog 7 #[.string a0] w fun e w' => e = .returned (.tuple #[.string r1, .string r2, .string r3, .bool r4, .bool r5, .bool r6]) ∧ Below w.heap.size w w' := by
  have HB := Aside0.mk (Below.refl w.heap.size w)
  have H : ((gjson_DoorObjectPath.f k a0).bind fun bt146 => (some (bt146.1, bt146.2.1, bt146.2.2.1, bt146.2.2.2.1, bt146.2.2.2.2.1, bt146.2.2.2.2.2))) = some (r1, r2, r3, r4, r5, r6) := h
  clear h
  replace H := Option.bind_eq_some_iff.mp H
  obtain ⟨⟨t146, t147, t148, t149, t150, t151⟩, A20, H⟩ := H
  replace H : (some (t146, t147, t148, t149, t150, t151)) = some (r1, r2, r3, r4, r5, r6) := H
  have A2 := Aside0.mk A20
  clear A20
  simp only [Option.some.injEq, Prod.mk.injEq] at H
  obtain ⟨rfl, rfl, rfl, rfl, rfl, rfl⟩ := H
  go_enter Tryz.func7, Tryz.ntmps7
  go_wp2_with (first | ((with_reducible refine gate_callee (f := 9) rfl ?_); refine goesL_ (some 9) rfl rfl Tryz.func9 (by kernel_rfl) rfl #[.string a0] rfl (by (try simp only [List.map_toArray, List.map_cons, List.map_nil]); first | done | rfl | (simp only [List.length_drop, List.length_take]; rfl)) ?_; (with_reducible refine (gjson_DoorObjectPath.calls k a0 t146 t147 t148 t149 t150 t151 _ A2.out).mono ?_); rintro e w3 ⟨rfl, hb⟩; refine ⟨_, rfl, ?_⟩; have n0_ := Aside0.mk (below_step (by repeat (first | (with_reducible first | exact HB.out | apply below_alloc | apply pw_below_drewN | apply below_drew1) | exact HB.out)) hb); clear HB; have HB := n0_; clear n0_; (try clear hb); (try clear hb2); (try clear hk); (try clear hi)))
  refine bodyPost_ret (results_list (rs := [.tmp 2, .tmp 3, .tmp 4, .tmp 5, .tmp 6, .tmp 7]) rfl (by simp) (.tmp (.tmp (.tmp (.tmp (.tmp (.tmp .nil))))))) rfl ?_
  exact ⟨by first | rfl | (simp [errW_none, errW_some] <;> rfl) | (simp [*, errW_none, errW_some] <;> rfl), by repeat (first | (with_reducible first | exact HB.out | apply below_alloc | apply pw_below_drewN | apply below_drew1) | exact HB.out)⟩

/-! ### laws_FnGjObjectPath: function 3 -/
mutual
def laws_FnGjObjectPath.j0 : Nat → List ByteArray → Bool → Bool → Option (Bool)
  | 0, _, _, _ => none
  | k + 1, x0, x1, x24 => if x24 = true then (some true) else (if 1 ≤ (x0.length : Int) then ((spec_PathOf.f k (x0.drop 1)).bind fun t155 => (if x1 = true then (laws_FnGjObjectPath.j1 k x0 x1 t155 (⟨#[124]⟩ : ByteArray)) else (laws_FnGjObjectPath.j1 k x0 x1 t155 (⟨#[46]⟩ : ByteArray)))) else (none))
def laws_FnGjObjectPath.j1 : Nat → List ByteArray → Bool → ByteArray → ByteArray → Option (Bool)
  | 0, _, _, _, _ => none
  | k + 1, x0, x1, x5, x6 => if 1 ≤ (x0.length : Int) then ((spec_PathOf.f k (x0.take 1)).bind fun t157 => (if (x0.length : Int) > 1 then (if x6.size + x5.size ≤ 9223372036854775807 then (if t157.size + (x6 ++ x5).size ≤ 9223372036854775807 then (laws_FnGjObjectPath.j2 k x0 x1 x5 (t157 ++ (x6 ++ x5))) else (none)) else (none)) else (laws_FnGjObjectPath.j2 k x0 x1 x5 t157))) else (none)
def laws_FnGjObjectPath.j2 : Nat → List ByteArray → Bool → ByteArray → ByteArray → Option (Bool)
  | 0, _, _, _, _ => none
  | k + 1, x0, x1, x5, x7 => (impl_GjObjectPath.f k x7).bind fun bt158 => (if 0 < (x0.length : Int) then (if bt158.1.toList = (rdOf ByteArray.empty x0 0).toList then (laws_FnGjObjectPath.j3 k x0 x1 x5 bt158.2.1 bt158.2.2.1 bt158.2.2.2.1 bt158.2.2.2.2.2 bt158.2.2.2.2.1) else (laws_FnGjObjectPath.j3 k x0 x1 x5 bt158.2.1 bt158.2.2.1 bt158.2.2.2.1 bt158.2.2.2.2.2 true)) else (none))
def laws_FnGjObjectPath.j3 : Nat → List ByteArray → Bool → ByteArray → ByteArray → ByteArray → Bool → Bool → Bool → Option (Bool)
  | 0, _, _, _, _, _, _, _, _ => none
  | k + 1, x0, x1, x5, x9, x10, x11, x13, x56 => if x56 = true then (some false) else (if (x0.length : Int) = 1 then (if x11 = true then (some false) else (some (!x13))) else (if x1 = true then (if x11 = true then (if x13 = true then (some false) else (some (x10.toList == x5.toList))) else (some false)) else (if x11 = true then (some false) else (if x13 = true then (some (x9.toList == x5.toList)) else (some false)))))
end
def laws_FnGjObjectPath.f (k : Nat) (l0 : List ByteArray) (a1 : Bool) : Option (Bool) := (laws_zzFits1.f k l0).bind fun t152 => (if t152 = true then ((laws_gjRest.f k l0).bind fun t153 => (if t153 = true then (laws_FnGjObjectPath.j0 k l0 a1 (decide ((l0.length : Int) > 64))) else (laws_FnGjObjectPath.j0 k l0 a1 true))) else (some true))
theorem laws_FnGjObjectPath.mono_l : ∀ k, (∀ y0 y1 y2, LeO (laws_FnGjObjectPath.j0 k y0 y1 y2) (laws_FnGjObjectPath.j0 (k + 1) y0 y1 y2)) ∧ (∀ y0 y1 y2 y3, LeO (laws_FnGjObjectPath.j1 k y0 y1 y2 y3) (laws_FnGjObjectPath.j1 (k + 1) y0 y1 y2 y3)) ∧ (∀ y0 y1 y2 y3, LeO (laws_FnGjObjectPath.j2 k y0 y1 y2 y3) (laws_FnGjObjectPath.j2 (k + 1) y0 y1 y2 y3)) ∧ (∀ y0 y1 y2 y3 y4 y5 y6 y7, LeO (laws_FnGjObjectPath.j3 k y0 y1 y2 y3 y4 y5 y6 y7) (laws_FnGjObjectPath.j3 (k + 1) y0 y1 y2 y3 y4 y5 y6 y7))
  | 0 => ⟨fun _ _ _ r h => by simp [laws_FnGjObjectPath.j0] at h, fun _ _ _ _ r h => by simp [laws_FnGjObjectPath.j1] at h, fun _ _ _ _ r h => by simp [laws_FnGjObjectPath.j2] at h, fun _ _ _ _ _ _ _ _ r h => by simp [laws_FnGjObjectPath.j3] at h⟩
  | k + 1 => by
    obtain ⟨ih0, ih1, ih2, ih3⟩ := laws_FnGjObjectPath.mono_l k
    refine ⟨?_, ?_, ?_, ?_⟩
    · intro y0 y1 y2
      unfold laws_FnGjObjectPath.j0
      repeat' first
      | (with_reducible exact ih0 _ _ _)
      | (with_reducible exact ih1 _ _ _ _)
      | (with_reducible exact ih2 _ _ _ _)
      | (with_reducible exact ih3 _ _ _ _ _ _ _ _)
      | (with_reducible exact impl_GjObjectPath.mono _ _)
      | (with_reducible exact laws_gjRest.mono _ _)
      | (with_reducible exact laws_zzFits1.mono _ _)
      | (with_reducible exact spec_PathOf.mono _ _)
      | (with_reducible exact LeO.refl _)
      | (with_reducible exact LeO.none _)
      | (with_reducible refine LeO.ite ?_ ?_)
      | (with_reducible refine LeO.bind ?_ (fun _ => ?_))
      | exact ih0 _ _ _
      | exact ih1 _ _ _ _
      | exact ih2 _ _ _ _
      | exact ih3 _ _ _ _ _ _ _ _
      | exact impl_GjObjectPath.mono _ _
      | exact laws_gjRest.mono _ _
      | exact laws_zzFits1.mono _ _
      | exact spec_PathOf.mono _ _
      | exact LeO.none _
      | refine LeO.ite ?_ ?_
      | refine LeO.bind ?_ (fun _ => ?_)
    · intro y0 y1 y2 y3
      unfold laws_FnGjObjectPath.j1
      repeat' first
      | (with_reducible exact ih0 _ _ _)
      | (with_reducible exact ih1 _ _ _ _)
      | (with_reducible exact ih2 _ _ _ _)
      | (with_reducible exact ih3 _ _ _ _ _ _ _ _)
      | (with_reducible exact impl_GjObjectPath.mono _ _)
      | (with_reducible exact laws_gjRest.mono _ _)
      | (with_reducible exact laws_zzFits1.mono _ _)
      | (with_reducible exact spec_PathOf.mono _ _)
      | (with_reducible exact LeO.refl _)
      | (with_reducible exact LeO.none _)
      | (with_reducible refine LeO.ite ?_ ?_)
      | (with_reducible refine LeO.bind ?_ (fun _ => ?_))
      | exact ih0 _ _ _
      | exact ih1 _ _ _ _
      | exact ih2 _ _ _ _
      | exact ih3 _ _ _ _ _ _ _ _
      | exact impl_GjObjectPath.mono _ _
      | exact laws_gjRest.mono _ _
      | exact laws_zzFits1.mono _ _
      | exact spec_PathOf.mono _ _
      | exact LeO.none _
      | refine LeO.ite ?_ ?_
      | refine LeO.bind ?_ (fun _ => ?_)
    · intro y0 y1 y2 y3
      unfold laws_FnGjObjectPath.j2
      repeat' first
      | (with_reducible exact ih0 _ _ _)
      | (with_reducible exact ih1 _ _ _ _)
      | (with_reducible exact ih2 _ _ _ _)
      | (with_reducible exact ih3 _ _ _ _ _ _ _ _)
      | (with_reducible exact impl_GjObjectPath.mono _ _)
      | (with_reducible exact laws_gjRest.mono _ _)
      | (with_reducible exact laws_zzFits1.mono _ _)
      | (with_reducible exact spec_PathOf.mono _ _)
      | (with_reducible exact LeO.refl _)
      | (with_reducible exact LeO.none _)
      | (with_reducible refine LeO.ite ?_ ?_)
      | (with_reducible refine LeO.bind ?_ (fun _ => ?_))
      | exact ih0 _ _ _
      | exact ih1 _ _ _ _
      | exact ih2 _ _ _ _
      | exact ih3 _ _ _ _ _ _ _ _
      | exact impl_GjObjectPath.mono _ _
      | exact laws_gjRest.mono _ _
      | exact laws_zzFits1.mono _ _
      | exact spec_PathOf.mono _ _
      | exact LeO.none _
      | refine LeO.ite ?_ ?_
      | refine LeO.bind ?_ (fun _ => ?_)
    · intro y0 y1 y2 y3 y4 y5 y6 y7
      unfold laws_FnGjObjectPath.j3
      repeat' first
      | (with_reducible exact ih0 _ _ _)
      | (with_reducible exact ih1 _ _ _ _)
      | (with_reducible exact ih2 _ _ _ _)
      | (with_reducible exact ih3 _ _ _ _ _ _ _ _)
      | (with_reducible exact impl_GjObjectPath.mono _ _)
      | (with_reducible exact laws_gjRest.mono _ _)
      | (with_reducible exact laws_zzFits1.mono _ _)
      | (with_reducible exact spec_PathOf.mono _ _)
      | (with_reducible exact LeO.refl _)
      | (with_reducible exact LeO.none _)
      | (with_reducible refine LeO.ite ?_ ?_)
      | (with_reducible refine LeO.bind ?_ (fun _ => ?_))
      | exact ih0 _ _ _
      | exact ih1 _ _ _ _
      | exact ih2 _ _ _ _
      | exact ih3 _ _ _ _ _ _ _ _
      | exact impl_GjObjectPath.mono _ _
      | exact laws_gjRest.mono _ _
      | exact laws_zzFits1.mono _ _
      | exact spec_PathOf.mono _ _
      | exact LeO.none _
      | refine LeO.ite ?_ ?_
      | refine LeO.bind ?_ (fun _ => ?_)
theorem laws_FnGjObjectPath.mono : ∀ a0 a1 k, LeO (laws_FnGjObjectPath.f k a0 a1) (laws_FnGjObjectPath.f (k + 1) a0 a1) := by
  intro a0 a1 k
  obtain ⟨ih0, ih1, ih2, ih3⟩ := laws_FnGjObjectPath.mono_l k
  unfold laws_FnGjObjectPath.f
  repeat' first
      | (with_reducible exact ih0 _ _ _)
      | (with_reducible exact ih1 _ _ _ _)
      | (with_reducible exact ih2 _ _ _ _)
      | (with_reducible exact ih3 _ _ _ _ _ _ _ _)
      | (with_reducible exact impl_GjObjectPath.mono _ _)
      | (with_reducible exact laws_gjRest.mono _ _)
      | (with_reducible exact laws_zzFits1.mono _ _)
      | (with_reducible exact spec_PathOf.mono _ _)
      | (with_reducible exact LeO.refl _)
      | (with_reducible exact LeO.none _)
      | (with_reducible refine LeO.ite ?_ ?_)
      | (with_reducible refine LeO.bind ?_ (fun _ => ?_))
      | exact ih0 _ _ _
      | exact ih1 _ _ _ _
      | exact ih2 _ _ _ _
      | exact ih3 _ _ _ _ _ _ _ _
      | exact impl_GjObjectPath.mono _ _
      | exact laws_gjRest.mono _ _
      | exact laws_zzFits1.mono _ _
      | exact spec_PathOf.mono _ _
      | exact LeO.none _
      | refine LeO.ite ?_ ?_
      | refine LeO.bind ?_ (fun _ => ?_)
set_option maxHeartbeats 8000000 in
set_option maxRecDepth 100000 in
theorem laws_FnGjObjectPath.calls (k : Nat) (A0 : Option Addr) (c0 : Nat) (l0 : List ByteArray) (a1 : Bool) (r : Bool) (w : World) (hr0 : Kd.C Kd.string w A0 l0.length l0) (hc0 : l0.length ≤ c0) (h : laws_FnGjObjectPath.f k l0 a1 = some r) :
    Calls Tryz.prog 3 #[.slice A0 l0.length c0, .bool a1] w fun e w' => e = .returned (.bool r) ∧ Below w.heap.size w w' := by
  have HR0 := Aside0.mk hr0
  have HC0 := Aside0.mk hc0
  clear hr0 hc0
  have HB := Aside0.mk (Below.refl w.heap.size w)
  have H : ((laws_zzFits1.f k l0).bind fun t152 => (if t152 = true then ((laws_gjRest.f k l0).bind fun t153 => (if t153 = true then (laws_FnGjObjectPath.j0 k l0 a1 (decide ((l0.length : Int) > 64))) else (laws_FnGjObjectPath.j0 k l0 a1 true))) else (some true))) = some r := h
  clear h
  replace H := Option.bind_eq_some_iff.mp H
  obtain ⟨t152, A30, H⟩ := H
  replace H : (if t152 = true then ((laws_gjRest.f k l0).bind fun t153 => (if t153 = true then (laws_FnGjObjectPath.j0 k l0 a1 (decide ((l0.length : Int) > 64))) else (laws_FnGjObjectPath.j0 k l0 a1 true))) else (some true)) = some r := H
  have A3 := Aside0.mk A30
  clear A30
  by_cases c4 : t152 = true
  · subst c4
    have H1 : ((laws_gjRest.f k l0).bind fun t153 => (if t153 = true then (laws_FnGjObjectPath.j0 k l0 a1 (decide ((l0.length : Int) > 64))) else (laws_FnGjObjectPath.j0 k l0 a1 true))) = some r := by rw [if_pos rfl] at H; exact H
    clear H
    have H := H1
    clear H1
    have HC5 := Aside0.mk H
    clear H
    go_enter Tryz.func3, Tryz.ntmps3
    go_upto_region 3 with (first | ((with_reducible refine gate_callee (f := 4) rfl ?_); refine goesL_ (some 15) rfl rfl Tryz.func4 (by kernel_rfl) rfl #[.slice A0 l0.length c0] rfl (by (try simp only [List.map_toArray, List.map_cons, List.map_nil]); first | done | rfl | (simp only [List.length_drop, List.length_take]; rfl)) ?_; (with_reducible refine (laws_zzFits1.calls k _ _ l0 true _ ?side1 ?side2 A3.out).mono ?_); (case side1 => repeat (first | exact HR0.out | (with_reducible refine Kd.C_alloc ?_ _) | (with_reducible refine Kd.C_drewN ?_ _) | (with_reducible refine Kd.C_drew ?_))); (case side2 => exact HC0.out); rintro e w' ⟨rfl, ⟨nd, rfl⟩⟩; refine ⟨_, rfl, ?_⟩))
    (try simp only [Act.put, List.setIfInBounds_toArray, List.set_cons_zero, List.set_cons_succ])
    go_cut [24] (fun v24 wc => ∃ (kq : Nat) (x24_4 : Bool), v24 = .bool x24_4 ∧ Aside0 (laws_FnGjObjectPath.j0 kq l0 a1 x24_4 = some r) ∧ Aside0 (kq ≤ k) ∧ Aside0 (Below w.heap.size w wc))
    case first =>
      have H := HC5.out
      clear HC5
      replace H := Option.bind_eq_some_iff.mp H
      obtain ⟨t153, A60, H⟩ := H
      replace H : (if t153 = true then (laws_FnGjObjectPath.j0 k l0 a1 (decide ((l0.length : Int) > 64))) else (laws_FnGjObjectPath.j0 k l0 a1 true)) = some r := H
      have A6 := Aside0.mk A60
      clear A60
      by_cases c7 : t153 = true
      · subst c7
        have H1 : (laws_FnGjObjectPath.j0 k l0 a1 (decide ((l0.length : Int) > 64))) = some r := by rw [if_pos rfl] at H; exact H
        clear H
        have H := H1
        clear H1
        have H' := Aside0.mk H
        clear H
        go_wp2_with (first | ((with_reducible refine gate_callee (f := 5) rfl ?_); refine goesL_ (some 18) rfl rfl Tryz.func5 (by kernel_rfl) rfl #[.slice A0 l0.length c0] rfl (by (try simp only [List.map_toArray, List.map_cons, List.map_nil]); first | done | rfl | (simp only [List.length_drop, List.length_take]; rfl)) ?_; (with_reducible refine (laws_gjRest.calls k _ _ l0 true _ ?side1 ?side2 A6.out).mono ?_); (case side1 => repeat (first | exact (Kd.C_below HR0.out HB.out) | (with_reducible refine Kd.C_alloc ?_ _) | (with_reducible refine Kd.C_drewN ?_ _) | (with_reducible refine Kd.C_drew ?_))); (case side2 => exact HC0.out); rintro e w' ⟨rfl, ⟨nd, rfl⟩⟩; refine ⟨_, rfl, ?_⟩))
        go_meet
        case rel => exact ⟨_, (decide ((l0.length : Int) > 64)), (by first | rfl | (simp; done) | (simp [*]; done)), H', ⟨by first | omega | exact Nat.le_refl _⟩, ⟨by repeat (first | (with_reducible first | exact HB.out | apply below_alloc | apply pw_below_drewN | apply below_drew1) | exact HB.out)⟩⟩
      · replace c7 := Bool.eq_false_iff.mpr c7
        subst c7
        have H1 : (laws_FnGjObjectPath.j0 k l0 a1 true) = some r := by rw [if_neg (show ¬ (false = true) by decide)] at H; exact H
        clear H
        have H := H1
        clear H1
        have H' := Aside0.mk H
        clear H
        go_wp2_with (first | ((with_reducible refine gate_callee (f := 5) rfl ?_); refine goesL_ (some 18) rfl rfl Tryz.func5 (by kernel_rfl) rfl #[.slice A0 l0.length c0] rfl (by (try simp only [List.map_toArray, List.map_cons, List.map_nil]); first | done | rfl | (simp only [List.length_drop, List.length_take]; rfl)) ?_; (with_reducible refine (laws_gjRest.calls k _ _ l0 false _ ?side1 ?side2 A6.out).mono ?_); (case side1 => repeat (first | exact (Kd.C_below HR0.out HB.out) | (with_reducible refine Kd.C_alloc ?_ _) | (with_reducible refine Kd.C_drewN ?_ _) | (with_reducible refine Kd.C_drew ?_))); (case side2 => exact HC0.out); rintro e w' ⟨rfl, ⟨nd, rfl⟩⟩; refine ⟨_, rfl, ?_⟩))
        go_meet
        case rel => exact ⟨_, (true), (by first | rfl | (simp; done) | (simp [*]; done)), H', ⟨by first | omega | exact Nat.le_refl _⟩, ⟨by repeat (first | (with_reducible first | exact HB.out | apply below_alloc | apply pw_below_drewN | apply below_drew1) | exact HB.out)⟩⟩
    case rest =>
      clear HC5
      try clear p2
      try clear c3
      try clear c4
      try clear c5
      try clear c7
      obtain ⟨kq, x24_4, rfl, HA, HJ4, HB⟩ := hcut
      cases kq with
      | zero => exact absurd HA.out (by simp [laws_FnGjObjectPath.j0])
      | succ kj4 =>
        have H := HA.out
        clear HA
        simp only [laws_FnGjObjectPath.j0] at H
        by_cases c8 : x24_4 = true
        · subst c8
          have H1 : (some true) = some r := by rw [if_pos rfl] at H; exact H
          clear H
          have H := H1
          clear H1
          obtain rfl := Option.some.inj H
          go_wp2
          go_ret
          exact ⟨by first | rfl | (simp [errW_none, errW_some] <;> rfl) | (simp [*, errW_none, errW_some] <;> rfl), by repeat (first | (with_reducible first | exact HB.out | apply below_alloc | apply pw_below_drewN | apply below_drew1) | exact HB.out)⟩
        · replace c8 := Bool.eq_false_iff.mpr c8
          subst c8
          have H1 : (if 1 ≤ (l0.length : Int) then ((spec_PathOf.f kj4 (l0.drop 1)).bind fun t155 => (if a1 = true then (laws_FnGjObjectPath.j1 kj4 l0 a1 t155 (⟨#[124]⟩ : ByteArray)) else (laws_FnGjObjectPath.j1 kj4 l0 a1 t155 (⟨#[46]⟩ : ByteArray)))) else (none)) = some r := by rw [if_neg (show ¬ (false = true) by decide)] at H; exact H
          clear H
          have H := H1
          clear H1
          by_cases c9 : 1 ≤ (l0.length : Int)
          · rw [if_pos c9] at H
            have c9b0 := eq_true c9
            have c9b1 : decide (1 ≤ (l0.length : Int)) = true := decide_eq_true c9
            clear c9
            replace H := Option.bind_eq_some_iff.mp H
            obtain ⟨t155, A100, H⟩ := H
            replace H : (if a1 = true then (laws_FnGjObjectPath.j1 kj4 l0 a1 t155 (⟨#[124]⟩ : ByteArray)) else (laws_FnGjObjectPath.j1 kj4 l0 a1 t155 (⟨#[46]⟩ : ByteArray))) = some r := H
            have A10 := Aside0.mk A100
            clear A100
            have HC11 := Aside0.mk H
            clear H
            obtain ⟨i012, hi012, _, hsz12, _⟩ := info_parts info9
            obtain ⟨A12, hcut12, hA12, hC12⟩ := print_drop_of (P := Tryz.prog) Value.string (⟨#[]⟩ : ByteArray) 22 9 .i64 Tryz.underlying22 hi012 hsz12 A0 c0 l0 1 (by omega) (of_decide_eq_true (by first | (with_reducible assumption) | assumption)) HC0.out
            have HR154 := Aside0.mk (Kd.C_of_reads (h1 := fun _ => rfl) (hA12 _ (Kd.reads_of_C HR0.out)))
            have HC154 := Aside0.mk hC12
            clear hA12 hC12 hi012 hsz12
            go_upto_if 28 with (first | ((with_reducible refine gate_callee (f := 6) rfl ?_); refine goesL_ (some 27) rfl rfl Tryz.func6 (by kernel_rfl) rfl #[.slice A12 (l0.drop 1).length (c0 - 1)] rfl (by (try simp only [List.map_toArray, List.map_cons, List.map_nil]); first | done | (rw [show (l0.drop 1).length = (l0.length - 1) from List.length_drop] <;> rfl) | rfl | (simp only [List.length_drop, List.length_take]; rfl)) ?_; (with_reducible refine (spec_PathOf.calls kj4 _ _ (l0.drop 1) t155 _ ?side1 ?side2 A10.out).mono ?_); (case side1 => repeat (first | exact (Kd.C_below HR154.out HB.out) | (with_reducible refine Kd.C_alloc ?_ _) | (with_reducible refine Kd.C_drewN ?_ _) | (with_reducible refine Kd.C_drew ?_))); (case side2 => exact HC154.out); rintro e w13 ⟨rfl, hb⟩; refine ⟨_, rfl, ?_⟩; have n0_ := Aside0.mk (below_step (by repeat (first | (with_reducible first | exact HB.out | apply below_alloc | apply pw_below_drewN | apply below_drew1) | exact HB.out)) hb); clear HB; have HB := n0_; clear n0_; (try clear hb); (try clear hb2); (try clear hk); (try clear hi)))
            (try simp only [Act.put, List.setIfInBounds_toArray, List.set_cons_zero, List.set_cons_succ])
            go_cut [6] (fun v6 wc => ∃ (kq : Nat) (x6_10 : ByteArray), v6 = .string x6_10 ∧ Aside0 (laws_FnGjObjectPath.j1 kq l0 a1 t155 x6_10 = some r) ∧ Aside0 (kq ≤ kj4) ∧ Aside0 (Below w.heap.size w wc))
            case first =>
              have H := HC11.out
              clear HC11
              by_cases c14 : a1 = true
              · subst c14
                have H1 : (laws_FnGjObjectPath.j1 kj4 l0 true t155 (⟨#[124]⟩ : ByteArray)) = some r := by rw [if_pos rfl] at H; exact H
                clear H
                have H := H1
                clear H1
                have H' := Aside0.mk H
                clear H
                go_wp2
                go_meet
                case rel => exact ⟨_, ((⟨#[124]⟩ : ByteArray)), (by first | rfl | (simp; done) | (simp [*]; done)), H', ⟨by have := HJ4.out; first | omega | exact Nat.le_refl _⟩, ⟨by repeat (first | (with_reducible first | exact HB.out | apply below_alloc | apply pw_below_drewN | apply below_drew1) | exact HB.out)⟩⟩
              · replace c14 := Bool.eq_false_iff.mpr c14
                subst c14
                have H1 : (laws_FnGjObjectPath.j1 kj4 l0 false t155 (⟨#[46]⟩ : ByteArray)) = some r := by rw [if_neg (show ¬ (false = true) by decide)] at H; exact H
                clear H
                have H := H1
                clear H1
                have H' := Aside0.mk H
                clear H
                go_wp2
                go_meet
                case rel => exact ⟨_, ((⟨#[46]⟩ : ByteArray)), (by first | rfl | (simp; done) | (simp [*]; done)), H', ⟨by have := HJ4.out; first | omega | exact Nat.le_refl _⟩, ⟨by repeat (first | (with_reducible first | exact HB.out | apply below_alloc | apply pw_below_drewN | apply below_drew1) | exact HB.out)⟩⟩
            case rest =>
              clear HC11
              try clear c1
              try clear p2
              try clear c3
              try clear c4
              try clear c5
              try clear c6
              try clear c7
              try clear c8
              try clear c9
              try clear c9b0
              try clear c9b1
              try clear c14
              try clear p2
              obtain ⟨kq, x6_10, rfl, HA, HJ10, HB⟩ := hcut
              cases kq with
              | zero => exact absurd HA.out (by simp [laws_FnGjObjectPath.j1])
              | succ kj10 =>
                have H := HA.out
                clear HA
                simp only [laws_FnGjObjectPath.j1] at H
                by_cases c15 : 1 ≤ (l0.length : Int)
                · rw [if_pos c15] at H
                  have c15b0 := eq_true c15
                  have c15b1 : decide (1 ≤ (l0.length : Int)) = true := decide_eq_true c15
                  clear c15
                  replace H := Option.bind_eq_some_iff.mp H
                  obtain ⟨t157, A160, H⟩ := H
                  replace H : (if (l0.length : Int) > 1 then (if x6_10.size + t155.size ≤ 9223372036854775807 then (if t157.size + (x6_10 ++ t155).size ≤ 9223372036854775807 then (laws_FnGjObjectPath.j2 kj10 l0 a1 t155 (t157 ++ (x6_10 ++ t155))) else (none)) else (none)) else (laws_FnGjObjectPath.j2 kj10 l0 a1 t155 t157)) = some r := H
                  have A16 := Aside0.mk A160
                  clear A160
                  have HC17 := Aside0.mk H
                  clear H
                  obtain ⟨i018, hi018, _, hsz18, _⟩ := info_parts info9
                  obtain ⟨hcut18, hA18, hC18⟩ := print_take_of (P := Tryz.prog) Value.string (⟨#[]⟩ : ByteArray) 22 9 .i64 Tryz.underlying22 hi018 hsz18 A0 c0 l0 1 (by omega) (of_decide_eq_true (by first | (with_reducible assumption) | assumption)) HC0.out
                  have HR156 := Aside0.mk (Kd.C_of_reads (h1 := fun _ => rfl) (hA18 _ (Kd.reads_of_C HR0.out)))
                  have HC156 := Aside0.mk hC18
                  clear hA18 hC18 hi018 hsz18
                  go_upto_if 34 with (first | ((with_reducible refine gate_callee (f := 6) rfl ?_); refine goesL_ (some 31) rfl rfl Tryz.func6 (by kernel_rfl) rfl #[.slice A0 (l0.take 1).length c0] rfl (by (try simp only [List.map_toArray, List.map_cons, List.map_nil]); first | done | (rw [show (l0.take 1).length = 1 from (by rw [List.length_take]; have h_ : (1 : Int) ≤ (l0.length : Int) := of_decide_eq_true (by first | (with_reducible assumption) | assumption); omega)] <;> rfl) | rfl | (simp only [List.length_drop, List.length_take]; rfl)) ?_; (with_reducible refine (spec_PathOf.calls kj10 _ _ (l0.take 1) t157 _ ?side1 ?side2 A16.out).mono ?_); (case side1 => repeat (first | exact (Kd.C_below HR156.out HB.out) | (with_reducible refine Kd.C_alloc ?_ _) | (with_reducible refine Kd.C_drewN ?_ _) | (with_reducible refine Kd.C_drew ?_))); (case side2 => exact HC156.out); rintro e w19 ⟨rfl, hb⟩; refine ⟨_, rfl, ?_⟩; have n0_ := Aside0.mk (below_step (by repeat (first | (with_reducible first | exact HB.out | apply below_alloc | apply pw_below_drewN | apply below_drew1) | exact HB.out)) hb); clear HB; have HB := n0_; clear n0_; (try clear hb); (try clear hb2); (try clear hk); (try clear hi)))
                  (try simp only [Act.put, List.setIfInBounds_toArray, List.set_cons_zero, List.set_cons_succ])
                  go_cut [7] (fun v7 wc => ∃ (kq : Nat) (x7_16 : ByteArray), v7 = .string x7_16 ∧ Aside0 (laws_FnGjObjectPath.j2 kq l0 a1 t155 x7_16 = some r) ∧ Aside0 (kq ≤ kj10) ∧ Aside0 (Below w.heap.size w wc))
                  case first =>
                    have H := HC17.out
                    clear HC17
                    by_cases c20 : (l0.length : Int) > 1
                    · rw [if_pos c20] at H
                      have c20b0 : decide (1 < (l0.length : Int)) = true := decide_eq_true c20
                      have c20b1 : decide (1 < l0.length) = true := decide_eq_true (by omega)
                      clear c20
                      (first | rw [c20b0] | (simp only [i64_w, i32_w]; rw [c20b0]) | skip)
                      by_cases c21 : x6_10.size + t155.size ≤ 9223372036854775807
                      · rw [if_pos c21] at H
                        have c21b0 := eq_true c21
                        have c21b1 : decide (x6_10.size + t155.size ≤ 9223372036854775807) = true := decide_eq_true c21
                        try have c21b2 : (9223372036854775807 < x6_10.size + t155.size) = False := eq_false (Nat.not_lt.2 c21)
                        by_cases c22 : t157.size + (x6_10 ++ t155).size ≤ 9223372036854775807
                        · rw [if_pos c22] at H
                          have c22b0 := eq_true c22
                          have c22b1 : decide (t157.size + (x6_10 ++ t155).size ≤ 9223372036854775807) = true := decide_eq_true c22
                          try have c22b2 : (9223372036854775807 < t157.size + (x6_10 ++ t155).size) = False := eq_false (Nat.not_lt.2 c22)
                          have H' := Aside0.mk H
                          clear H
                          go_wp2
                          go_meet
                          case rel => exact ⟨_, (t157 ++ (x6_10 ++ t155)), (by first | rfl | (simp; done) | (simp [*]; done)), H', ⟨by have := HJ4.out; have := HJ10.out; first | omega | exact Nat.le_refl _⟩, ⟨by repeat (first | (with_reducible first | exact HB.out | apply below_alloc | apply pw_below_drewN | apply below_drew1) | exact HB.out)⟩⟩
                        · rw [if_neg c22] at H
                          exact absurd H (by simp)
                      · rw [if_neg c21] at H
                        exact absurd H (by simp)
                    · rw [if_neg c20] at H
                      have c20b0 : decide (1 < (l0.length : Int)) = false := decide_eq_false c20
                      have c20b1 : decide (1 < l0.length) = false := decide_eq_false (by omega)
                      clear c20
                      (first | rw [c20b0] | (simp only [i64_w, i32_w]; rw [c20b0]) | skip)
                      have H' := Aside0.mk H
                      clear H
                      go_wp2
                      go_meet
                      case rel => exact ⟨_, (t157), (by first | rfl | (simp; done) | (simp [*]; done)), H', ⟨by have := HJ4.out; have := HJ10.out; first | omega | exact Nat.le_refl _⟩, ⟨by repeat (first | (with_reducible first | exact HB.out | apply below_alloc | apply pw_below_drewN | apply below_drew1) | exact HB.out)⟩⟩
                  case rest =>
                    clear HC17
                    try clear c1
                    try clear c2
                    try clear p2
                    try clear c3
                    try clear c4
                    try clear c5
                    try clear c6
                    try clear c7
                    try clear c8
                    try clear c9
                    try clear c9b0
                    try clear c9b1
                    try clear c14
                    try clear c15
                    try clear c15b0
                    try clear c15b1
                    try clear c20
                    try clear c20b0
                    try clear c20b1
                    try clear c21
                    try clear c21b0
                    try clear c21b1
                    try clear c21b2
                    try clear c22
                    try clear c22b0
                    try clear c22b1
                    try clear c22b2
                    try clear p2
                    obtain ⟨kq, x7_16, rfl, HA, HJ16, HB⟩ := hcut
                    cases kq with
                    | zero => exact absurd HA.out (by simp [laws_FnGjObjectPath.j2])
                    | succ kj16 =>
                      have H := HA.out
                      clear HA
                      simp only [laws_FnGjObjectPath.j2] at H
                      replace H := Option.bind_eq_some_iff.mp H
                      obtain ⟨⟨t158, t159, t160, t161, t162, t163⟩, A230, H⟩ := H
                      replace H : (if 0 < (l0.length : Int) then (if t158.toList = (rdOf ByteArray.empty l0 0).toList then (laws_FnGjObjectPath.j3 kj16 l0 a1 t155 t159 t160 t161 t163 t162) else (laws_FnGjObjectPath.j3 kj16 l0 a1 t155 t159 t160 t161 t163 true)) else (none)) = some r := H
                      have A23 := Aside0.mk A230
                      clear A230
                      have HC24 := Aside0.mk H
                      clear H
                      go_upto_region 13 with (first | ((with_reducible refine gate_callee (f := 7) rfl ?_); refine goesL_ (some 42) rfl rfl Tryz.func7 (by kernel_rfl) rfl #[.string x7_16] rfl (by (try simp only [List.map_toArray, List.map_cons, List.map_nil]); first | done | rfl | (simp only [List.length_drop, List.length_take]; rfl)) ?_; (with_reducible refine (impl_GjObjectPath.calls kj16 x7_16 t158 t159 t160 t161 t162 t163 _ A23.out).mono ?_); rintro e w25 ⟨rfl, hb⟩; refine ⟨_, rfl, ?_⟩; have n0_ := Aside0.mk (below_step (by repeat (first | (with_reducible first | exact HB.out | apply below_alloc | apply pw_below_drewN | apply below_drew1) | exact HB.out)) hb); clear HB; have HB := n0_; clear n0_; (try clear hb); (try clear hb2); (try clear hk); (try clear hi)))
                      (try simp only [Act.put, List.setIfInBounds_toArray, List.set_cons_zero, List.set_cons_succ])
                      go_cut [56] (fun v56 wc => ∃ (kq : Nat) (x56_23 : Bool), v56 = .bool x56_23 ∧ Aside0 (laws_FnGjObjectPath.j3 kq l0 a1 t155 t159 t160 t161 t163 x56_23 = some r) ∧ Aside0 (kq ≤ kj16) ∧ Aside0 (Below w.heap.size w wc))
                      case first =>
                        have H := HC24.out
                        clear HC24
                        by_cases c26 : 0 < (l0.length : Int)
                        · rw [if_pos c26] at H
                          have c26b0 : decide (0 < (l0.length : Int)) = true := decide_eq_true c26
                          have c26b1 : decide (0 < l0.length) = true := decide_eq_true (by omega)
                          clear c26
                          (first | rw [c26b0] | (simp only [i64_w, i32_w]; rw [c26b0]) | skip)
                          by_cases c27 : t158.toList = (rdOf ByteArray.empty l0 0).toList
                          · rw [if_pos c27] at H
                            have c27b0 : (t158.toList == (rdOf ByteArray.empty l0 0).toList) = true := beq_iff_eq.mpr c27
                            have c27b1 : (t158.toList != (rdOf ByteArray.empty l0 0).toList) = false := bne_eq_false_iff_eq.mpr c27
                            clear c27
                            have H' := Aside0.mk H
                            clear H
                            have p164 : 0 ≤ (0 : Int) := (by omega)
                            have q164 : 0 < (l0.length : Int) := of_decide_eq_true (by first | (with_reducible assumption) | assumption)
                            obtain ⟨ad164, e164, hx164_0⟩ := Kd.at_string HR0.out 0 p164 q164
                            cases e164
                            have qi164 : (0 < l0.length) = True := eq_true (by omega)
                            (try rw [show ((0 : Int)).toNat = 0 from rfl] at hx164_0)
                            (try rw [Addr.add_zero'] at hx164_0)
                            replace hx164_0 := (HB.out.cell (World.block_lt_of_cell? w _ hx164_0)).trans hx164_0
                            replace p164 := eq_true p164
                            replace q164 := eq_true q164
                            go_wp2
                            go_meet
                            case rel => exact ⟨_, (t162), (by first | rfl | (simp; done) | (simp [*]; done)), H', ⟨by have := HJ4.out; have := HJ10.out; have := HJ16.out; first | omega | exact Nat.le_refl _⟩, ⟨by repeat (first | (with_reducible first | exact HB.out | apply below_alloc | apply pw_below_drewN | apply below_drew1) | exact HB.out)⟩⟩
                          · rw [if_neg c27] at H
                            have c27b0 : (t158.toList == (rdOf ByteArray.empty l0 0).toList) = false := beq_eq_false_iff_ne.mpr c27
                            have c27b1 : (t158.toList != (rdOf ByteArray.empty l0 0).toList) = true := bne_iff_ne.mpr c27
                            have H' := Aside0.mk H
                            clear H
                            have p164 : 0 ≤ (0 : Int) := (by omega)
                            have q164 : 0 < (l0.length : Int) := of_decide_eq_true (by first | (with_reducible assumption) | assumption)
                            obtain ⟨ad164, e164, hx164_0⟩ := Kd.at_string HR0.out 0 p164 q164
                            cases e164
                            have qi164 : (0 < l0.length) = True := eq_true (by omega)
                            (try rw [show ((0 : Int)).toNat = 0 from rfl] at hx164_0)
                            (try rw [Addr.add_zero'] at hx164_0)
                            replace hx164_0 := (HB.out.cell (World.block_lt_of_cell? w _ hx164_0)).trans hx164_0
                            replace p164 := eq_true p164
                            replace q164 := eq_true q164
                            go_wp2
                            go_meet
                            case rel => exact ⟨_, (true), (by first | rfl | (simp; done) | (simp [*]; done)), H', ⟨by have := HJ4.out; have := HJ10.out; have := HJ16.out; first | omega | exact Nat.le_refl _⟩, ⟨by repeat (first | (with_reducible first | exact HB.out | apply below_alloc | apply pw_below_drewN | apply below_drew1) | exact HB.out)⟩⟩
                        · rw [if_neg c26] at H
                          exact absurd H (by simp)
                      case rest =>
                        clear HC24
                        try clear c1
                        try clear p1
                        try clear q1
                        try clear hx1
                        try clear qi1
                        try clear c2
                        try clear p2
                        try clear c3
                        try clear c4
                        try clear c5
                        try clear c6
                        try clear c7
                        try clear c8
                        try clear c9
                        try clear c9b0
                        try clear c9b1
                        try clear c14
                        try clear c15
                        try clear c15b0
                        try clear c15b1
                        try clear p16
                        try clear q16
                        try clear hx16
                        try clear qi16
                        try clear c20
                        try clear c20b0
                        try clear c20b1
                        try clear c21
                        try clear c21b0
                        try clear c21b1
                        try clear c21b2
                        try clear c22
                        try clear c22b0
                        try clear c22b1
                        try clear c22b2
                        try clear c26
                        try clear c26b0
                        try clear c26b1
                        try clear c27
                        try clear c27b0
                        try clear c27b1
                        try clear hx164_0
                        try clear p164
                        try clear p2
                        try clear q164
                        obtain ⟨kq, x56_23, rfl, HA, HJ23, HB⟩ := hcut
                        cases kq with
                        | zero => exact absurd HA.out (by simp [laws_FnGjObjectPath.j3])
                        | succ kj23 =>
                          have H := HA.out
                          clear HA
                          simp only [laws_FnGjObjectPath.j3] at H
                          by_cases c28 : x56_23 = true
                          · subst c28
                            have H1 : (some false) = some r := by rw [if_pos rfl] at H; exact H
                            clear H
                            have H := H1
                            clear H1
                            obtain rfl := Option.some.inj H
                            go_wp2
                            go_ret
                            exact ⟨by first | rfl | (simp [errW_none, errW_some] <;> rfl) | (simp [*, errW_none, errW_some] <;> rfl), by repeat (first | (with_reducible first | exact HB.out | apply below_alloc | apply pw_below_drewN | apply below_drew1) | exact HB.out)⟩
                          · replace c28 := Bool.eq_false_iff.mpr c28
                            subst c28
                            have H1 : (if (l0.length : Int) = 1 then (if t161 = true then (some false) else (some (!t163))) else (if a1 = true then (if t161 = true then (if t163 = true then (some false) else (some (t160.toList == t155.toList))) else (some false)) else (if t161 = true then (some false) else (if t163 = true then (some (t159.toList == t155.toList)) else (some false))))) = some r := by rw [if_neg (show ¬ (false = true) by decide)] at H; exact H
                            clear H
                            have H := H1
                            clear H1
                            by_cases c29 : (l0.length : Int) = 1
                            · rw [if_pos c29] at H
                              have c29b0 : ((l0.length : Int) == 1) = true := beq_iff_eq.mpr c29
                              have c29b1 : ((l0.length : Int) != 1) = false := bne_eq_false_iff_eq.mpr c29
                              clear c29
                              by_cases c30 : t161 = true
                              · subst c30
                                have H1 : (some false) = some r := by rw [if_pos rfl] at H; exact H
                                clear H
                                have H := H1
                                clear H1
                                obtain rfl := Option.some.inj H
                                go_wp2
                                go_ret
                                exact ⟨by first | rfl | (simp [errW_none, errW_some] <;> rfl) | (simp [*, errW_none, errW_some] <;> rfl), by repeat (first | (with_reducible first | exact HB.out | apply below_alloc | apply pw_below_drewN | apply below_drew1) | exact HB.out)⟩
                              · replace c30 := Bool.eq_false_iff.mpr c30
                                subst c30
                                have H1 : (some (!t163)) = some r := by rw [if_neg (show ¬ (false = true) by decide)] at H; exact H
                                clear H
                                have H := H1
                                clear H1
                                obtain rfl := Option.some.inj H
                                go_wp2
                                go_ret
                                exact ⟨by first | rfl | (simp [errW_none, errW_some] <;> rfl) | (simp [*, errW_none, errW_some] <;> rfl), by repeat (first | (with_reducible first | exact HB.out | apply below_alloc | apply pw_below_drewN | apply below_drew1) | exact HB.out)⟩
                            · rw [if_neg c29] at H
                              have c29b0 : ((l0.length : Int) == 1) = false := beq_eq_false_iff_ne.mpr c29
                              have c29b1 : ((l0.length : Int) != 1) = true := bne_iff_ne.mpr c29
                              by_cases c31 : a1 = true
                              · subst c31
                                have H1 : (if t161 = true then (if t163 = true then (some false) else (some (t160.toList == t155.toList))) else (some false)) = some r := by rw [if_pos rfl] at H; exact H
                                clear H
                                have H := H1
                                clear H1
                                by_cases c32 : t161 = true
                                · subst c32
                                  have H1 : (if t163 = true then (some false) else (some (t160.toList == t155.toList))) = some r := by rw [if_pos rfl] at H; exact H
                                  clear H
                                  have H := H1
                                  clear H1
                                  by_cases c33 : t163 = true
                                  · subst c33
                                    have H1 : (some false) = some r := by rw [if_pos rfl] at H; exact H
                                    clear H
                                    have H := H1
                                    clear H1
                                    obtain rfl := Option.some.inj H
                                    go_wp2
                                    go_ret
                                    exact ⟨by first | rfl | (simp [errW_none, errW_some] <;> rfl) | (simp [*, errW_none, errW_some] <;> rfl), by repeat (first | (with_reducible first | exact HB.out | apply below_alloc | apply pw_below_drewN | apply below_drew1) | exact HB.out)⟩
                                  · replace c33 := Bool.eq_false_iff.mpr c33
                                    subst c33
                                    have H1 : (some (t160.toList == t155.toList)) = some r := by rw [if_neg (show ¬ (false = true) by decide)] at H; exact H
                                    clear H
                                    have H := H1
                                    clear H1
                                    obtain rfl := Option.some.inj H
                                    go_wp2
                                    go_ret
                                    exact ⟨by first | rfl | (simp [errW_none, errW_some] <;> rfl) | (simp [*, errW_none, errW_some] <;> rfl), by repeat (first | (with_reducible first | exact HB.out | apply below_alloc | apply pw_below_drewN | apply below_drew1) | exact HB.out)⟩
                                · replace c32 := Bool.eq_false_iff.mpr c32
                                  subst c32
                                  have H1 : (some false) = some r := by rw [if_neg (show ¬ (false = true) by decide)] at H; exact H
                                  clear H
                                  have H := H1
                                  clear H1
                                  obtain rfl := Option.some.inj H
                                  go_wp2
                                  go_ret
                                  exact ⟨by first | rfl | (simp [errW_none, errW_some] <;> rfl) | (simp [*, errW_none, errW_some] <;> rfl), by repeat (first | (with_reducible first | exact HB.out | apply below_alloc | apply pw_below_drewN | apply below_drew1) | exact HB.out)⟩
                              · replace c31 := Bool.eq_false_iff.mpr c31
                                subst c31
                                have H1 : (if t161 = true then (some false) else (if t163 = true then (some (t159.toList == t155.toList)) else (some false))) = some r := by rw [if_neg (show ¬ (false = true) by decide)] at H; exact H
                                clear H
                                have H := H1
                                clear H1
                                by_cases c34 : t161 = true
                                · subst c34
                                  have H1 : (some false) = some r := by rw [if_pos rfl] at H; exact H
                                  clear H
                                  have H := H1
                                  clear H1
                                  obtain rfl := Option.some.inj H
                                  go_wp2
                                  go_ret
                                  exact ⟨by first | rfl | (simp [errW_none, errW_some] <;> rfl) | (simp [*, errW_none, errW_some] <;> rfl), by repeat (first | (with_reducible first | exact HB.out | apply below_alloc | apply pw_below_drewN | apply below_drew1) | exact HB.out)⟩
                                · replace c34 := Bool.eq_false_iff.mpr c34
                                  subst c34
                                  have H1 : (if t163 = true then (some (t159.toList == t155.toList)) else (some false)) = some r := by rw [if_neg (show ¬ (false = true) by decide)] at H; exact H
                                  clear H
                                  have H := H1
                                  clear H1
                                  by_cases c35 : t163 = true
                                  · subst c35
                                    have H1 : (some (t159.toList == t155.toList)) = some r := by rw [if_pos rfl] at H; exact H
                                    clear H
                                    have H := H1
                                    clear H1
                                    obtain rfl := Option.some.inj H
                                    go_wp2
                                    go_ret
                                    exact ⟨by first | rfl | (simp [errW_none, errW_some] <;> rfl) | (simp [*, errW_none, errW_some] <;> rfl), by repeat (first | (with_reducible first | exact HB.out | apply below_alloc | apply pw_below_drewN | apply below_drew1) | exact HB.out)⟩
                                  · replace c35 := Bool.eq_false_iff.mpr c35
                                    subst c35
                                    have H1 : (some false) = some r := by rw [if_neg (show ¬ (false = true) by decide)] at H; exact H
                                    clear H
                                    have H := H1
                                    clear H1
                                    obtain rfl := Option.some.inj H
                                    go_wp2
                                    go_ret
                                    exact ⟨by first | rfl | (simp [errW_none, errW_some] <;> rfl) | (simp [*, errW_none, errW_some] <;> rfl), by repeat (first | (with_reducible first | exact HB.out | apply below_alloc | apply pw_below_drewN | apply below_drew1) | exact HB.out)⟩
                · rw [if_neg c15] at H
                  exact absurd H (by simp)
          · rw [if_neg c9] at H
            exact absurd H (by simp)
  · replace c4 := Bool.eq_false_iff.mpr c4
    subst c4
    have H1 : (some true) = some r := by rw [if_neg (show ¬ (false = true) by decide)] at H; exact H
    clear H
    have H := H1
    clear H1
    obtain rfl := Option.some.inj H
    go_enter Tryz.func3, Tryz.ntmps3
    go_wp2_with (first | ((with_reducible refine gate_callee (f := 4) rfl ?_); refine goesL_ (some 15) rfl rfl Tryz.func4 (by kernel_rfl) rfl #[.slice A0 l0.length c0] rfl (by (try simp only [List.map_toArray, List.map_cons, List.map_nil]); first | done | rfl | (simp only [List.length_drop, List.length_take]; rfl)) ?_; (with_reducible refine (laws_zzFits1.calls k _ _ l0 false _ ?side1 ?side2 A3.out).mono ?_); (case side1 => repeat (first | exact HR0.out | (with_reducible refine Kd.C_alloc ?_ _) | (with_reducible refine Kd.C_drewN ?_ _) | (with_reducible refine Kd.C_drew ?_))); (case side2 => exact HC0.out); rintro e w' ⟨rfl, ⟨nd, rfl⟩⟩; refine ⟨_, rfl, ?_⟩))
    go_ret
    exact ⟨by first | rfl | (simp [errW_none, errW_some] <;> rfl) | (simp [*, errW_none, errW_some] <;> rfl), by repeat (first | (with_reducible first | exact HB.out | apply below_alloc | apply pw_below_drewN | apply below_drew1) | exact HB.out)⟩

end Go.Proofs.YtnpkgjoiencbiaaGreatDoor.MOP
