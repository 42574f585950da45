-- written by a program of this session (wip/myprint.py, a driver over the kit's print); Lean checks it
import Derived.Test.YtnpkgjoiencbiaaGreatDoorMOPx0
import Derived.Test.YtnpkgjoiencbiaaGreatDoorMOPx2
namespace Go.Proofs.YtnpkgjoiencbiaaGreatDoor.MOP
open Go.RowKit Go.Proofs.YtnpkgjoiencbiaaGreatDoorW.PrintWords Go.Proofs.YtnpkgjoiencbiaaGreatDoorW.PrintLast Go.Proofs.YtnpkgjoiencbiaaGreatDoorW.PrintMore
attribute [local go_sem] max2_int min2_int max_two min_two max_three min_three max_four min_four   -- for this text's walks alone
set_option linter.unusedVariables false
set_option linter.unusedSimpArgs false

/-! ### gjson_parseObjectPath: function 11 -/
mutual
def gjson_parseObjectPath.l0 : Nat → ByteArray → Int → ByteArray → ByteArray → ByteArray → Bool → Bool → Bool → Option (ByteArray × ByteArray × ByteArray × Bool × Bool × Bool)
  | 0, _, _, _, _, _, _, _, _ => none
  | k + 1, x0, x3, x119000, x119001, x119002, x119003, x119004, x119005 => if x3 < (x0.size : Int) then (if 0 ≤ x3 then (if (bt x0 x3) = 124 then (if x3 ≤ (x0.size : Int) then (if 0 ≤ (wrap64 (x3 + 1)) then (if (wrap64 (x3 + 1)) ≤ (x0.size : Int) then (some (x0.extract 0 (x3 : Int).toNat, x119001, x0.extract ((wrap64 (x3 + 1)) : Int).toNat x0.size, true, x119004, x119005)) else (none)) else (none)) else (none)) else (if (bt x0 x3) = 46 then (if x3 ≤ (x0.size : Int) then (if x3 < (wrap64 ((x0.size : Int) - 1)) then (if 0 ≤ (wrap64 (x3 + 1)) then (if (wrap64 (x3 + 1)) ≤ (x0.size : Int) then ((gjson_isDotPiperChar.f k (x0.extract ((wrap64 (x3 + 1)) : Int).toNat x0.size)).bind fun t119 => (if t119 = true then (some (x0.extract 0 (x3 : Int).toNat, x119001, x0.extract ((wrap64 (x3 + 1)) : Int).toNat x0.size, true, x119004, x119005)) else (some (x0.extract 0 (x3 : Int).toNat, x0.extract ((wrap64 (x3 + 1)) : Int).toNat x0.size, x119002, x119003, x119004, true)))) else (none)) else (none)) else (if 0 ≤ (wrap64 (x3 + 1)) then (if (wrap64 (x3 + 1)) ≤ (x0.size : Int) then (some (x0.extract 0 (x3 : Int).toNat, x0.extract ((wrap64 (x3 + 1)) : Int).toNat x0.size, x119002, x119003, x119004, true)) else (none)) else (none))) else (none)) else (if (bt x0 x3) = 42 then (gjson_parseObjectPath.j1 k x0 x3 true x119000 x119001 x119002 x119003 x119004 x119005) else (gjson_parseObjectPath.j1 k x0 x3 ((bt x0 x3) == 63) x119000 x119001 x119002 x119003 x119004 x119005)))) else (none)) else (some (x0, x119001, x119002, x119003, x119004, x119005))
def gjson_parseObjectPath.j1 : Nat → ByteArray → Int → Bool → ByteArray → ByteArray → ByteArray → Bool → Bool → Bool → Option (ByteArray × ByteArray × ByteArray × Bool × Bool × Bool)
  | 0, _, _, _, _, _, _, _, _, _ => none
  | k + 1, x0, x3, x66, x119000, x119001, x119002, x119003, x119004, x119005 => if x66 = true then (gjson_parseObjectPath.l0 k x0 (wrap64 (x3 + 1)) x119000 x119001 x119002 x119003 true x119005) else (if 0 ≤ x3 then (if x3 < (x0.size : Int) then (if (bt x0 x3) = 92 then (if x3 ≤ (x0.size : Int) then (if (x0.extract 0 (x3 : Int).toNat).size ≤ 140737488355328 then ((some (bytesOf (x0.extract 0 (x3 : Int).toNat) : List Int)).bind fun y120 => (if (wrap64 (x3 + 1)) < (x0.size : Int) then (if 0 ≤ (wrap64 (x3 + 1)) then (if y120.length < 140737488355328 then (gjson_parseObjectPath.l1 k x0 (wrap64 ((wrap64 (x3 + 1)) + 1)) (y120 ++ [bt x0 (wrap64 (x3 + 1))]) x119000 x119001 x119002 x119003 x119004 x119005) else (none)) else (none)) else (some (strOfNums y120, x119001, x119002, x119003, x119004, x119005)))) else (none)) else (none)) else (gjson_parseObjectPath.l0 k x0 (wrap64 (x3 + 1)) x119000 x119001 x119002 x119003 x119004 x119005)) else (none)) else (none))
def gjson_parseObjectPath.l1 : Nat → ByteArray → Int → List Int → ByteArray → ByteArray → ByteArray → Bool → Bool → Bool → Option (ByteArray × ByteArray × ByteArray × Bool × Bool × Bool)
  | 0, _, _, _, _, _, _, _, _, _ => none
  | k + 1, x0, x3, x4, x119000, x119001, x119002, x119003, x119004, x119005 => if x3 < (x0.size : Int) then (if 0 ≤ x3 then (if (bt x0 x3) = 92 then (if (wrap64 (x3 + 1)) < (x0.size : Int) then (if 0 ≤ (wrap64 (x3 + 1)) then (if x4.length < 140737488355328 then (gjson_parseObjectPath.l1 k x0 (wrap64 ((wrap64 (x3 + 1)) + 1)) (x4 ++ [bt x0 (wrap64 (x3 + 1))]) x119000 x119001 x119002 x119003 x119004 x119005) else (none)) else (none)) else (gjson_parseObjectPath.l1 k x0 (wrap64 ((wrap64 (x3 + 1)) + 1)) x4 x119000 x119001 x119002 x119003 x119004 x119005)) else (if (bt x0 x3) = 46 then (if x3 < (wrap64 ((x0.size : Int) - 1)) then (if 0 ≤ (wrap64 (x3 + 1)) then (if (wrap64 (x3 + 1)) ≤ (x0.size : Int) then ((gjson_isDotPiperChar.f k (x0.extract ((wrap64 (x3 + 1)) : Int).toNat x0.size)).bind fun t129 => (if t129 = true then (some (strOfNums x4, x119001, x0.extract ((wrap64 (x3 + 1)) : Int).toNat x0.size, true, x119004, x119005)) else (some (strOfNums x4, x0.extract ((wrap64 (x3 + 1)) : Int).toNat x0.size, x119002, x119003, x119004, true)))) else (none)) else (none)) else (if 0 ≤ (wrap64 (x3 + 1)) then (if (wrap64 (x3 + 1)) ≤ (x0.size : Int) then (some (strOfNums x4, x0.extract ((wrap64 (x3 + 1)) : Int).toNat x0.size, x119002, x119003, x119004, true)) else (none)) else (none))) else (if (bt x0 x3) = 124 then (if 0 ≤ (wrap64 (x3 + 1)) then (if (wrap64 (x3 + 1)) ≤ (x0.size : Int) then (some (strOfNums x4, x119001, x0.extract ((wrap64 (x3 + 1)) : Int).toNat x0.size, true, x119004, x119005)) else (none)) else (none)) else (if (bt x0 x3) = 42 then (if x4.length < 140737488355328 then (gjson_parseObjectPath.l1 k x0 (wrap64 (x3 + 1)) (x4 ++ [bt x0 x3]) x119000 x119001 x119002 x119003 true x119005) else (none)) else (if (bt x0 x3) = 63 then (if x4.length < 140737488355328 then (gjson_parseObjectPath.l1 k x0 (wrap64 (x3 + 1)) (x4 ++ [bt x0 x3]) x119000 x119001 x119002 x119003 true x119005) else (none)) else (if x4.length < 140737488355328 then (gjson_parseObjectPath.l1 k x0 (wrap64 (x3 + 1)) (x4 ++ [bt x0 x3]) x119000 x119001 x119002 x119003 x119004 x119005) else (none))))))) else (none)) else (some (strOfNums x4, x119001, x119002, x119003, x119004, x119005))
end
def gjson_parseObjectPath.f (k : Nat) (a0 : ByteArray) : Option (ByteArray × ByteArray × ByteArray × Bool × Bool × Bool) := gjson_parseObjectPath.l0 k a0 0 (⟨#[]⟩ : ByteArray) (⟨#[]⟩ : ByteArray) (⟨#[]⟩ : ByteArray) false false false
theorem gjson_parseObjectPath.mono_l : ∀ k, (∀ y0 y1 y2 y3 y4 y5 y6 y7, LeO (gjson_parseObjectPath.l0 k y0 y1 y2 y3 y4 y5 y6 y7) (gjson_parseObjectPath.l0 (k + 1) y0 y1 y2 y3 y4 y5 y6 y7)) ∧ (∀ y0 y1 y2 y3 y4 y5 y6 y7 y8, LeO (gjson_parseObjectPath.j1 k y0 y1 y2 y3 y4 y5 y6 y7 y8) (gjson_parseObjectPath.j1 (k + 1) y0 y1 y2 y3 y4 y5 y6 y7 y8)) ∧ (∀ y0 y1 y2 y3 y4 y5 y6 y7 y8, LeO (gjson_parseObjectPath.l1 k y0 y1 y2 y3 y4 y5 y6 y7 y8) (gjson_parseObjectPath.l1 (k + 1) y0 y1 y2 y3 y4 y5 y6 y7 y8))
  | 0 => ⟨fun _ _ _ _ _ _ _ _ r h => by simp [gjson_parseObjectPath.l0] at h, fun _ _ _ _ _ _ _ _ _ r h => by simp [gjson_parseObjectPath.j1] at h, fun _ _ _ _ _ _ _ _ _ r h => by simp [gjson_parseObjectPath.l1] at h⟩
  | k + 1 => by
    obtain ⟨ih0, ih1, ih2⟩ := gjson_parseObjectPath.mono_l k
    refine ⟨?_, ?_, ?_⟩
    · intro y0 y1 y2 y3 y4 y5 y6 y7
      unfold gjson_parseObjectPath.l0
      repeat' first
      | (with_reducible exact ih0 _ _ _ _ _ _ _ _)
      | (with_reducible exact ih1 _ _ _ _ _ _ _ _ _)
      | (with_reducible exact ih2 _ _ _ _ _ _ _ _ _)
      | (with_reducible exact gjson_isDotPiperChar.mono _ _)
      | (with_reducible exact LeO.refl _)
      | (with_reducible exact LeO.none _)
      | (with_reducible refine LeO.ite ?_ ?_)
      | (with_reducible refine LeO.bind ?_ (fun _ => ?_))
      | exact ih0 _ _ _ _ _ _ _ _
      | exact ih1 _ _ _ _ _ _ _ _ _
      | exact ih2 _ _ _ _ _ _ _ _ _
      | exact gjson_isDotPiperChar.mono _ _
      | exact LeO.none _
      | refine LeO.ite ?_ ?_
      | refine LeO.bind ?_ (fun _ => ?_)
    · intro y0 y1 y2 y3 y4 y5 y6 y7 y8
      unfold gjson_parseObjectPath.j1
      repeat' first
      | (with_reducible exact ih0 _ _ _ _ _ _ _ _)
      | (with_reducible exact ih1 _ _ _ _ _ _ _ _ _)
      | (with_reducible exact ih2 _ _ _ _ _ _ _ _ _)
      | (with_reducible exact gjson_isDotPiperChar.mono _ _)
      | (with_reducible exact LeO.refl _)
      | (with_reducible exact LeO.none _)
      | (with_reducible refine LeO.ite ?_ ?_)
      | (with_reducible refine LeO.bind ?_ (fun _ => ?_))
      | exact ih0 _ _ _ _ _ _ _ _
      | exact ih1 _ _ _ _ _ _ _ _ _
      | exact ih2 _ _ _ _ _ _ _ _ _
      | exact gjson_isDotPiperChar.mono _ _
      | exact LeO.none _
      | refine LeO.ite ?_ ?_
      | refine LeO.bind ?_ (fun _ => ?_)
    · intro y0 y1 y2 y3 y4 y5 y6 y7 y8
      unfold gjson_parseObjectPath.l1
      repeat' first
      | (with_reducible exact ih0 _ _ _ _ _ _ _ _)
      | (with_reducible exact ih1 _ _ _ _ _ _ _ _ _)
      | (with_reducible exact ih2 _ _ _ _ _ _ _ _ _)
      | (with_reducible exact gjson_isDotPiperChar.mono _ _)
      | (with_reducible exact LeO.refl _)
      | (with_reducible exact LeO.none _)
      | (with_reducible refine LeO.ite ?_ ?_)
      | (with_reducible refine LeO.bind ?_ (fun _ => ?_))
      | exact ih0 _ _ _ _ _ _ _ _
      | exact ih1 _ _ _ _ _ _ _ _ _
      | exact ih2 _ _ _ _ _ _ _ _ _
      | exact gjson_isDotPiperChar.mono _ _
      | exact LeO.none _
      | refine LeO.ite ?_ ?_
      | refine LeO.bind ?_ (fun _ => ?_)
theorem gjson_parseObjectPath.mono : ∀ a0 k, LeO (gjson_parseObjectPath.f k a0) (gjson_parseObjectPath.f (k + 1) a0) := by
  intro a0 k
  obtain ⟨ih0, ih1, ih2⟩ := gjson_parseObjectPath.mono_l k
  unfold gjson_parseObjectPath.f
  repeat' first
      | (with_reducible exact ih0 _ _ _ _ _ _ _ _)
      | (with_reducible exact ih1 _ _ _ _ _ _ _ _ _)
      | (with_reducible exact ih2 _ _ _ _ _ _ _ _ _)
      | (with_reducible exact gjson_isDotPiperChar.mono _ _)
      | (with_reducible exact LeO.refl _)
      | (with_reducible exact LeO.none _)
      | (with_reducible refine LeO.ite ?_ ?_)
      | (with_reducible refine LeO.bind ?_ (fun _ => ?_))
      | exact ih0 _ _ _ _ _ _ _ _
      | exact ih1 _ _ _ _ _ _ _ _ _
      | exact ih2 _ _ _ _ _ _ _ _ _
      | exact gjson_isDotPiperChar.mono _ _
      | exact LeO.none _
      | refine LeO.ite ?_ ?_
      | refine LeO.bind ?_ (fun _ => ?_)
set_option maxHeartbeats 8000000 in
set_option maxRecDepth 100000 in
theorem gjson_parseObjectPath.calls (k : Nat) (a0 : ByteArray) (r1 : ByteArray) (r2 : ByteArray) (r3 : ByteArray) (r4 : Bool) (r5 : Bool) (r6 : Bool) (w : World) (h : gjson_parseObjectPath.f k a0 = some (r1, r2, r3, r4, r5, r6)) :
    Calls Tryz.prog 11 #[.string a0] w fun e w' => e = .returned (.agg #[.string r1, .string r2, .string r3, .bool r4, .bool r5, .bool r6]) ∧ Below w.heap.size w w' := by
  have hu31 := Tryz.underlying31
  have HB := Aside0.mk (Below.refl w.heap.size w)
  have H : (gjson_parseObjectPath.l0 k a0 0 (⟨#[]⟩ : ByteArray) (⟨#[]⟩ : ByteArray) (⟨#[]⟩ : ByteArray) false false false) = some (r1, r2, r3, r4, r5, r6) := h
  clear h
  have H' := Aside0.mk H
  clear H
  go_enter Tryz.func11, Tryz.ntmps11
  go_wp2_with (first | ((with_reducible refine gate_dst (N := 2) rfl ?_); refine box_event ?hg (N := 2) ?hd (cs := #[.string (⟨#[]⟩ : ByteArray), .string (⟨#[]⟩ : ByteArray), .string (⟨#[]⟩ : ByteArray), .bool false, .bool false, .bool false]) (t := 31) ?hr ?_; (case hd => rfl); (case hg => rfl); (case hr => first | (go_simp; done) | (go_simp; rfl)); intro gb118 hg w2 hbox hb; have n0_ := Aside0.mk (below_step (by repeat (first | (with_reducible first | exact HB.out | apply below_alloc | apply pw_below_drewN | apply below_drew1) | exact HB.out)) hb); have n1_ := Aside0.mk (hbox); have n2_ := Aside0.mk ((by rw [hg]; exact (below_size (by repeat (first | (with_reducible first | exact HB.out | apply below_alloc | apply pw_below_drewN | apply below_drew1) | exact HB.out))) : w.heap.size ≤ gb118)); have n3_ := Aside0.mk ((by rw [hg]; exact (below_size (by repeat (first | (with_reducible first | exact HB.out | apply below_alloc | apply pw_below_drewN | apply below_drew1) | exact HB.out))) : w.heap.size ≤ gb118)); clear HB; have HB := n0_; have BK118 := n1_; have GW118 := n2_; have GE118 := n3_; clear n0_ n1_ n2_ n3_; clear hb hbox hg))
  go_loopg [3] k (fun kq v3 w' => ∃ (x3_1 : Int) (x119000_1 : ByteArray) (x119001_1 : ByteArray) (x119002_1 : ByteArray) (x119003_1 : Bool) (x119004_1 : Bool) (x119005_1 : Bool), v3 = .int .i64 x3_1 ∧ Aside0 (gjson_parseObjectPath.l0 kq a0 x3_1 x119000_1 x119001_1 x119002_1 x119003_1 x119004_1 x119005_1 = some (r1, r2, r3, r4, r5, r6)) ∧ Aside0 (kq ≤ k) ∧ Aside0 (w'.heap[gb118]? = some (.cells #[.string x119000_1, .string x119001_1, .string x119002_1, .bool x119003_1, .bool x119004_1, .bool x119005_1] 31 (0, 0))) ∧ Aside0 (Below w.heap.size w w'))
  case atStart => exact ⟨(0), ((⟨#[]⟩ : ByteArray)), ((⟨#[]⟩ : ByteArray)), ((⟨#[]⟩ : ByteArray)), (false), (false), (false), (by first | rfl | (simp; done) | (simp [*]; done)), H', ⟨Nat.le_refl _⟩, ⟨by (with_reducible repeat (first | refine blk_drewN ?_ _ | refine blk_drew ?_ | refine blk_alloc ?_ _)); exact BK118.out⟩, ⟨by repeat (first | (with_reducible first | exact HB.out | apply below_alloc | apply pw_below_drewN | apply below_drew1 | refine below_set ?_ GE118.out) | exact HB.out)⟩⟩
  case round =>
    clear H'
    try clear c1
    try clear p2
    obtain ⟨x3_1, x119000_1, x119001_1, x119002_1, x119003_1, x119004_1, x119005_1, rfl, HA, HK1, BK118, HB⟩ := hrel
    cases gk with
    | zero => exact absurd HA.out (by simp [gjson_parseObjectPath.l0])
    | succ k1 =>
      have H := HA.out
      clear HA
      simp only [gjson_parseObjectPath.l0] at H
      by_cases c3 : x3_1 < (a0.size : Int)
      · rw [if_pos c3] at H
        have c3b0 : decide (x3_1 < (a0.size : Int)) = true := decide_eq_true c3
        clear c3
        by_cases c4 : 0 ≤ x3_1
        · rw [if_pos c4] at H
          have c4b0 : decide (0 ≤ x3_1) = true := decide_eq_true c4
          clear c4
          by_cases c6 : (bt a0 x3_1) = 124
          · rw [if_pos c6] at H
            have c6b0 : ((bt a0 x3_1) == 124) = true := beq_iff_eq.mpr c6
            have c6b1 : ((bt a0 x3_1) != 124) = false := bne_eq_false_iff_eq.mpr c6
            clear c6
            have c7b0 := eq_true (of_decide_eq_true (by first | (with_reducible assumption) | assumption) : 0 ≤ x3_1)
            by_cases c8 : x3_1 ≤ (a0.size : Int)
            · rw [if_pos c8] at H
              have c8b0 := eq_true c8
              have c8b1 : decide (x3_1 ≤ (a0.size : Int)) = true := decide_eq_true c8
              clear c8
              obtain ⟨ji9, hji9⟩ : ∃ j_ : Int, (wrap64 (x3_1 + 1)) = j_ := ⟨_, rfl⟩
              replace H : (if 0 ≤ (ji9) then (if (ji9) ≤ (a0.size : Int) then (some (a0.extract 0 (x3_1 : Int).toNat, x119001_1, a0.extract ((ji9) : Int).toNat a0.size, true, x119004_1, x119005_1)) else (none)) else (none)) = some (r1, r2, r3, r4, r5, r6) := by first | (rw [hji9] at H; exact H) | (simp only [hji9] at H ⊢; exact H)
              have hji9w : (IntKind.i64.wrap (x3_1 + 1)) = ji9 := (i64_w _).trans hji9
              by_cases c10 : 0 ≤ (ji9)
              · rw [if_pos c10] at H
                have c10b0 := eq_true c10
                have c10b1 : decide (0 ≤ (ji9)) = true := decide_eq_true c10
                clear c10
                by_cases c11 : (ji9) ≤ (a0.size : Int)
                · rw [if_pos c11] at H
                  have c11b0 := eq_true c11
                  have c11b1 : decide ((ji9) ≤ (a0.size : Int)) = true := decide_eq_true c11
                  clear c11
                  simp only [Option.some.injEq, Prod.mk.injEq] at H
                  obtain ⟨rfl, rfl, rfl, rfl, rfl, rfl⟩ := H
                  have p5 : 0 ≤ (x3_1 : Int) := of_decide_eq_true (by first | (with_reducible assumption) | assumption)
                  have q5 : x3_1 < (a0.size : Int) := of_decide_eq_true (by first | (with_reducible assumption) | assumption)
                  have hx5 := bt_at a0 x3_1
                  replace p5 := eq_true p5
                  replace q5 := eq_true q5
                  have hcz12_0 : wr.cell? ⟨gb118, 0, none⟩ = some (.string x119000_1) := (blk_cell BK118.out 0).trans rfl
                  have hcz12_1 : wr.cell? ⟨gb118, 1, none⟩ = some (.string x119001_1) := (blk_cell BK118.out 1).trans rfl
                  have hcz12_2 : wr.cell? ⟨gb118, 2, none⟩ = some (.string x119002_1) := (blk_cell BK118.out 2).trans rfl
                  have hcz12_3 : wr.cell? ⟨gb118, 3, none⟩ = some (.bool x119003_1) := (blk_cell BK118.out 3).trans rfl
                  have hcz12_4 : wr.cell? ⟨gb118, 4, none⟩ = some (.bool x119004_1) := (blk_cell BK118.out 4).trans rfl
                  have hcz12_5 : wr.cell? ⟨gb118, 5, none⟩ = some (.bool x119005_1) := (blk_cell BK118.out 5).trans rfl
                  have hfz12_0 := blk_frozen BK118.out 0
                  have hfz12_1 := blk_frozen BK118.out 1
                  have hfz12_2 := blk_frozen BK118.out 2
                  have hfz12_3 := blk_frozen BK118.out 3
                  have hfz12_4 := blk_frozen BK118.out 4
                  have hfz12_5 := blk_frozen BK118.out 5
                  go_wp2
                  refine bodyPost_ret (results_cell_row rfl _ _ gb118 31 #[.string (a0.extract 0 (x3_1 : Int).toNat), .string x119001_1, .string (a0.extract ((ji9) : Int).toNat a0.size), .bool true, .bool x119004_1, .bool x119005_1] (0, 0) _ rfl (by (with_reducible repeat (first | refine blk_drewN ?_ _ | refine blk_drew ?_ | refine blk_alloc ?_ _)); refine blk_put (cs := #[.string (a0.extract 0 (x3_1 : Int).toNat), .string x119001_1, .string (a0.extract ((ji9) : Int).toNat a0.size), .bool x119003_1, .bool x119004_1, .bool x119005_1]) ?_ 3 _ rfl; (with_reducible repeat (first | refine blk_drewN ?_ _ | refine blk_drew ?_ | refine blk_alloc ?_ _)); refine blk_put (cs := #[.string (a0.extract 0 (x3_1 : Int).toNat), .string x119001_1, .string x119002_1, .bool x119003_1, .bool x119004_1, .bool x119005_1]) ?_ 2 _ rfl; (with_reducible repeat (first | refine blk_drewN ?_ _ | refine blk_drew ?_ | refine blk_alloc ?_ _)); refine blk_put (cs := #[.string x119000_1, .string x119001_1, .string x119002_1, .bool x119003_1, .bool x119004_1, .bool x119005_1]) ?_ 0 _ rfl; (with_reducible repeat (first | refine blk_drewN ?_ _ | refine blk_drew ?_ | refine blk_alloc ?_ _)); exact BK118.out) Tryz.underlying31 rfl (by kernel_rfl)) rfl ?_
                  exact ⟨by first | rfl | (simp [errW_none, errW_some] <;> rfl) | (simp only [← hji9]; first | rfl | (simp [errW_none, errW_some] <;> rfl)) | (simp [*, errW_none, errW_some] <;> rfl), by repeat (first | (with_reducible first | exact HB.out | apply below_alloc | apply pw_below_drewN | apply below_drew1 | refine below_set ?_ GE118.out) | exact HB.out)⟩
                · rw [if_neg c11] at H
                  exact absurd H (by simp)
              · rw [if_neg c10] at H
                exact absurd H (by simp)
            · rw [if_neg c8] at H
              exact absurd H (by simp)
          · rw [if_neg c6] at H
            have c6b0 : ((bt a0 x3_1) == 124) = false := beq_eq_false_iff_ne.mpr c6
            have c6b1 : ((bt a0 x3_1) != 124) = true := bne_iff_ne.mpr c6
            by_cases c14 : (bt a0 x3_1) = 46
            · rw [if_pos c14] at H
              have c14b0 : ((bt a0 x3_1) == 46) = true := beq_iff_eq.mpr c14
              have c14b1 : ((bt a0 x3_1) != 46) = false := bne_eq_false_iff_eq.mpr c14
              clear c14
              have c15b0 := eq_true (of_decide_eq_true (by first | (with_reducible assumption) | assumption) : 0 ≤ x3_1)
              by_cases c16 : x3_1 ≤ (a0.size : Int)
              · rw [if_pos c16] at H
                have c16b0 := eq_true c16
                have c16b1 : decide (x3_1 ≤ (a0.size : Int)) = true := decide_eq_true c16
                clear c16
                by_cases c17 : x3_1 < (wrap64 ((a0.size : Int) - 1))
                · rw [if_pos c17] at H
                  have c17b0 : decide (x3_1 < (wrap64 ((a0.size : Int) - 1))) = true := decide_eq_true c17
                  clear c17
                  obtain ⟨ji18, hji18⟩ : ∃ j_ : Int, (wrap64 (x3_1 + 1)) = j_ := ⟨_, rfl⟩
                  replace H : (if 0 ≤ (ji18) then (if (ji18) ≤ (a0.size : Int) then ((gjson_isDotPiperChar.f k1 (a0.extract ((ji18) : Int).toNat a0.size)).bind fun t119 => (if t119 = true then (some (a0.extract 0 (x3_1 : Int).toNat, x119001_1, a0.extract ((ji18) : Int).toNat a0.size, true, x119004_1, x119005_1)) else (some (a0.extract 0 (x3_1 : Int).toNat, a0.extract ((ji18) : Int).toNat a0.size, x119002_1, x119003_1, x119004_1, true)))) else (none)) else (none)) = some (r1, r2, r3, r4, r5, r6) := by first | (rw [hji18] at H; exact H) | (simp only [hji18] at H ⊢; exact H)
                  have hji18w : (IntKind.i64.wrap (x3_1 + 1)) = ji18 := (i64_w _).trans hji18
                  by_cases c19 : 0 ≤ (ji18)
                  · rw [if_pos c19] at H
                    have c19b0 := eq_true c19
                    have c19b1 : decide (0 ≤ (ji18)) = true := decide_eq_true c19
                    clear c19
                    by_cases c20 : (ji18) ≤ (a0.size : Int)
                    · rw [if_pos c20] at H
                      have c20b0 := eq_true c20
                      have c20b1 : decide ((ji18) ≤ (a0.size : Int)) = true := decide_eq_true c20
                      clear c20
                      replace H := Option.bind_eq_some_iff.mp H
                      obtain ⟨t119, A210, H⟩ := H
                      replace H : (if t119 = true then (some (a0.extract 0 (x3_1 : Int).toNat, x119001_1, a0.extract ((ji18) : Int).toNat a0.size, true, x119004_1, x119005_1)) else (some (a0.extract 0 (x3_1 : Int).toNat, a0.extract ((ji18) : Int).toNat a0.size, x119002_1, x119003_1, x119004_1, true))) = some (r1, r2, r3, r4, r5, r6) := H
                      have A21 := Aside0.mk A210
                      clear A210
                      by_cases c22 : t119 = true
                      · subst c22
                        have H1 : (some (a0.extract 0 (x3_1 : Int).toNat, x119001_1, a0.extract ((ji18) : Int).toNat a0.size, true, x119004_1, x119005_1)) = some (r1, r2, r3, r4, r5, r6) := by rw [if_pos rfl] at H; exact H
                        clear H
                        have H := H1
                        clear H1
                        have c23b0 := eq_true (of_decide_eq_true (by first | (with_reducible assumption) | assumption) : 0 ≤ (ji18))
                        have c24b0 := eq_true (of_decide_eq_true (by first | (with_reducible assumption) | assumption) : (ji18) ≤ (a0.size : Int))
                        simp only [Option.some.injEq, Prod.mk.injEq] at H
                        obtain ⟨rfl, rfl, rfl, rfl, rfl, rfl⟩ := H
                        have p5 : 0 ≤ (x3_1 : Int) := of_decide_eq_true (by first | (with_reducible assumption) | assumption)
                        have q5 : x3_1 < (a0.size : Int) := of_decide_eq_true (by first | (with_reducible assumption) | assumption)
                        have hx5 := bt_at a0 x3_1
                        replace p5 := eq_true p5
                        replace q5 := eq_true q5
                        have p13 : 0 ≤ (x3_1 : Int) := of_decide_eq_true (by first | (with_reducible assumption) | assumption)
                        have q13 : x3_1 < (a0.size : Int) := of_decide_eq_true (by first | (with_reducible assumption) | assumption)
                        have hx13 := bt_at a0 x3_1
                        replace p13 := eq_true p13
                        replace q13 := eq_true q13
                        have hcz25_0 : wr.cell? ⟨gb118, 0, none⟩ = some (.string x119000_1) := (blk_cell BK118.out 0).trans rfl
                        have hcz25_1 : wr.cell? ⟨gb118, 1, none⟩ = some (.string x119001_1) := (blk_cell BK118.out 1).trans rfl
                        have hcz25_2 : wr.cell? ⟨gb118, 2, none⟩ = some (.string x119002_1) := (blk_cell BK118.out 2).trans rfl
                        have hcz25_3 : wr.cell? ⟨gb118, 3, none⟩ = some (.bool x119003_1) := (blk_cell BK118.out 3).trans rfl
                        have hcz25_4 : wr.cell? ⟨gb118, 4, none⟩ = some (.bool x119004_1) := (blk_cell BK118.out 4).trans rfl
                        have hcz25_5 : wr.cell? ⟨gb118, 5, none⟩ = some (.bool x119005_1) := (blk_cell BK118.out 5).trans rfl
                        have hfz25_0 := blk_frozen BK118.out 0
                        have hfz25_1 := blk_frozen BK118.out 1
                        have hfz25_2 := blk_frozen BK118.out 2
                        have hfz25_3 := blk_frozen BK118.out 3
                        have hfz25_4 := blk_frozen BK118.out 4
                        have hfz25_5 := blk_frozen BK118.out 5
                        go_wp2_with (first | (go_at_call 12; (with_reducible refine (gjson_isDotPiperChar.calls k1 (a0.extract ((ji18) : Int).toNat a0.size) true _ A21.out).mono ?_); rintro e w' ⟨rfl, ⟨nd, rfl⟩⟩))
                        refine bodyPost_ret (results_cell_row rfl _ _ gb118 31 #[.string (a0.extract 0 (x3_1 : Int).toNat), .string x119001_1, .string (a0.extract ((ji18) : Int).toNat a0.size), .bool true, .bool x119004_1, .bool x119005_1] (0, 0) _ rfl (by (with_reducible repeat (first | refine blk_drewN ?_ _ | refine blk_drew ?_ | refine blk_alloc ?_ _)); refine blk_put (cs := #[.string (a0.extract 0 (x3_1 : Int).toNat), .string x119001_1, .string (a0.extract ((ji18) : Int).toNat a0.size), .bool x119003_1, .bool x119004_1, .bool x119005_1]) ?_ 3 _ rfl; (with_reducible repeat (first | refine blk_drewN ?_ _ | refine blk_drew ?_ | refine blk_alloc ?_ _)); refine blk_put (cs := #[.string (a0.extract 0 (x3_1 : Int).toNat), .string x119001_1, .string x119002_1, .bool x119003_1, .bool x119004_1, .bool x119005_1]) ?_ 2 _ rfl; (with_reducible repeat (first | refine blk_drewN ?_ _ | refine blk_drew ?_ | refine blk_alloc ?_ _)); refine blk_put (cs := #[.string x119000_1, .string x119001_1, .string x119002_1, .bool x119003_1, .bool x119004_1, .bool x119005_1]) ?_ 0 _ rfl; (with_reducible repeat (first | refine blk_drewN ?_ _ | refine blk_drew ?_ | refine blk_alloc ?_ _)); exact BK118.out) Tryz.underlying31 rfl (by kernel_rfl)) rfl ?_
                        exact ⟨by first | rfl | (simp [errW_none, errW_some] <;> rfl) | (simp only [← hji18]; first | rfl | (simp [errW_none, errW_some] <;> rfl)) | (simp [*, errW_none, errW_some] <;> rfl), by repeat (first | (with_reducible first | exact HB.out | apply below_alloc | apply pw_below_drewN | apply below_drew1 | refine below_set ?_ GE118.out) | exact HB.out)⟩
                      · replace c22 := Bool.eq_false_iff.mpr c22
                        subst c22
                        have H1 : (some (a0.extract 0 (x3_1 : Int).toNat, a0.extract ((ji18) : Int).toNat a0.size, x119002_1, x119003_1, x119004_1, true)) = some (r1, r2, r3, r4, r5, r6) := by rw [if_neg (show ¬ (false = true) by decide)] at H; exact H
                        clear H
                        have H := H1
                        clear H1
                        have c26b0 := eq_true (of_decide_eq_true (by first | (with_reducible assumption) | assumption) : 0 ≤ (ji18))
                        have c27b0 := eq_true (of_decide_eq_true (by first | (with_reducible assumption) | assumption) : (ji18) ≤ (a0.size : Int))
                        simp only [Option.some.injEq, Prod.mk.injEq] at H
                        obtain ⟨rfl, rfl, rfl, rfl, rfl, rfl⟩ := H
                        have p5 : 0 ≤ (x3_1 : Int) := of_decide_eq_true (by first | (with_reducible assumption) | assumption)
                        have q5 : x3_1 < (a0.size : Int) := of_decide_eq_true (by first | (with_reducible assumption) | assumption)
                        have hx5 := bt_at a0 x3_1
                        replace p5 := eq_true p5
                        replace q5 := eq_true q5
                        have p13 : 0 ≤ (x3_1 : Int) := of_decide_eq_true (by first | (with_reducible assumption) | assumption)
                        have q13 : x3_1 < (a0.size : Int) := of_decide_eq_true (by first | (with_reducible assumption) | assumption)
                        have hx13 := bt_at a0 x3_1
                        replace p13 := eq_true p13
                        replace q13 := eq_true q13
                        have hcz28_0 : wr.cell? ⟨gb118, 0, none⟩ = some (.string x119000_1) := (blk_cell BK118.out 0).trans rfl
                        have hcz28_1 : wr.cell? ⟨gb118, 1, none⟩ = some (.string x119001_1) := (blk_cell BK118.out 1).trans rfl
                        have hcz28_2 : wr.cell? ⟨gb118, 2, none⟩ = some (.string x119002_1) := (blk_cell BK118.out 2).trans rfl
                        have hcz28_3 : wr.cell? ⟨gb118, 3, none⟩ = some (.bool x119003_1) := (blk_cell BK118.out 3).trans rfl
                        have hcz28_4 : wr.cell? ⟨gb118, 4, none⟩ = some (.bool x119004_1) := (blk_cell BK118.out 4).trans rfl
                        have hcz28_5 : wr.cell? ⟨gb118, 5, none⟩ = some (.bool x119005_1) := (blk_cell BK118.out 5).trans rfl
                        have hfz28_0 := blk_frozen BK118.out 0
                        have hfz28_1 := blk_frozen BK118.out 1
                        have hfz28_2 := blk_frozen BK118.out 2
                        have hfz28_3 := blk_frozen BK118.out 3
                        have hfz28_4 := blk_frozen BK118.out 4
                        have hfz28_5 := blk_frozen BK118.out 5
                        go_wp2_with (first | (go_at_call 12; (with_reducible refine (gjson_isDotPiperChar.calls k1 (a0.extract ((ji18) : Int).toNat a0.size) false _ A21.out).mono ?_); rintro e w' ⟨rfl, ⟨nd, rfl⟩⟩))
                        refine bodyPost_ret (results_cell_row rfl _ _ gb118 31 #[.string (a0.extract 0 (x3_1 : Int).toNat), .string (a0.extract ((ji18) : Int).toNat a0.size), .string x119002_1, .bool x119003_1, .bool x119004_1, .bool true] (0, 0) _ rfl (by (with_reducible repeat (first | refine blk_drewN ?_ _ | refine blk_drew ?_ | refine blk_alloc ?_ _)); refine blk_put (cs := #[.string (a0.extract 0 (x3_1 : Int).toNat), .string (a0.extract ((ji18) : Int).toNat a0.size), .string x119002_1, .bool x119003_1, .bool x119004_1, .bool x119005_1]) ?_ 5 _ rfl; (with_reducible repeat (first | refine blk_drewN ?_ _ | refine blk_drew ?_ | refine blk_alloc ?_ _)); refine blk_put (cs := #[.string (a0.extract 0 (x3_1 : Int).toNat), .string x119001_1, .string x119002_1, .bool x119003_1, .bool x119004_1, .bool x119005_1]) ?_ 1 _ rfl; (with_reducible repeat (first | refine blk_drewN ?_ _ | refine blk_drew ?_ | refine blk_alloc ?_ _)); refine blk_put (cs := #[.string x119000_1, .string x119001_1, .string x119002_1, .bool x119003_1, .bool x119004_1, .bool x119005_1]) ?_ 0 _ rfl; (with_reducible repeat (first | refine blk_drewN ?_ _ | refine blk_drew ?_ | refine blk_alloc ?_ _)); exact BK118.out) Tryz.underlying31 rfl (by kernel_rfl)) rfl ?_
                        exact ⟨by first | rfl | (simp [errW_none, errW_some] <;> rfl) | (simp only [← hji18]; first | rfl | (simp [errW_none, errW_some] <;> rfl)) | (simp [*, errW_none, errW_some] <;> rfl), by repeat (first | (with_reducible first | exact HB.out | apply below_alloc | apply pw_below_drewN | apply below_drew1 | refine below_set ?_ GE118.out) | exact HB.out)⟩
                    · rw [if_neg c20] at H
                      exact absurd H (by simp)
                  · rw [if_neg c19] at H
                    exact absurd H (by simp)
                · rw [if_neg c17] at H
                  have c17b0 : decide (x3_1 < (wrap64 ((a0.size : Int) - 1))) = false := decide_eq_false c17
                  clear c17
                  obtain ⟨ji29, hji29⟩ : ∃ j_ : Int, (wrap64 (x3_1 + 1)) = j_ := ⟨_, rfl⟩
                  replace H : (if 0 ≤ (ji29) then (if (ji29) ≤ (a0.size : Int) then (some (a0.extract 0 (x3_1 : Int).toNat, a0.extract ((ji29) : Int).toNat a0.size, x119002_1, x119003_1, x119004_1, true)) else (none)) else (none)) = some (r1, r2, r3, r4, r5, r6) := by first | (rw [hji29] at H; exact H) | (simp only [hji29] at H ⊢; exact H)
                  have hji29w : (IntKind.i64.wrap (x3_1 + 1)) = ji29 := (i64_w _).trans hji29
                  by_cases c30 : 0 ≤ (ji29)
                  · rw [if_pos c30] at H
                    have c30b0 := eq_true c30
                    have c30b1 : decide (0 ≤ (ji29)) = true := decide_eq_true c30
                    clear c30
                    by_cases c31 : (ji29) ≤ (a0.size : Int)
                    · rw [if_pos c31] at H
                      have c31b0 := eq_true c31
                      have c31b1 : decide ((ji29) ≤ (a0.size : Int)) = true := decide_eq_true c31
                      clear c31
                      simp only [Option.some.injEq, Prod.mk.injEq] at H
                      obtain ⟨rfl, rfl, rfl, rfl, rfl, rfl⟩ := H
                      have p5 : 0 ≤ (x3_1 : Int) := of_decide_eq_true (by first | (with_reducible assumption) | assumption)
                      have q5 : x3_1 < (a0.size : Int) := of_decide_eq_true (by first | (with_reducible assumption) | assumption)
                      have hx5 := bt_at a0 x3_1
                      replace p5 := eq_true p5
                      replace q5 := eq_true q5
                      have p13 : 0 ≤ (x3_1 : Int) := of_decide_eq_true (by first | (with_reducible assumption) | assumption)
                      have q13 : x3_1 < (a0.size : Int) := of_decide_eq_true (by first | (with_reducible assumption) | assumption)
                      have hx13 := bt_at a0 x3_1
                      replace p13 := eq_true p13
                      replace q13 := eq_true q13
                      have hcz32_0 : wr.cell? ⟨gb118, 0, none⟩ = some (.string x119000_1) := (blk_cell BK118.out 0).trans rfl
                      have hcz32_1 : wr.cell? ⟨gb118, 1, none⟩ = some (.string x119001_1) := (blk_cell BK118.out 1).trans rfl
                      have hcz32_2 : wr.cell? ⟨gb118, 2, none⟩ = some (.string x119002_1) := (blk_cell BK118.out 2).trans rfl
                      have hcz32_3 : wr.cell? ⟨gb118, 3, none⟩ = some (.bool x119003_1) := (blk_cell BK118.out 3).trans rfl
                      have hcz32_4 : wr.cell? ⟨gb118, 4, none⟩ = some (.bool x119004_1) := (blk_cell BK118.out 4).trans rfl
                      have hcz32_5 : wr.cell? ⟨gb118, 5, none⟩ = some (.bool x119005_1) := (blk_cell BK118.out 5).trans rfl
                      have hfz32_0 := blk_frozen BK118.out 0
                      have hfz32_1 := blk_frozen BK118.out 1
                      have hfz32_2 := blk_frozen BK118.out 2
                      have hfz32_3 := blk_frozen BK118.out 3
                      have hfz32_4 := blk_frozen BK118.out 4
                      have hfz32_5 := blk_frozen BK118.out 5
                      go_wp2
                      refine bodyPost_ret (results_cell_row rfl _ _ gb118 31 #[.string (a0.extract 0 (x3_1 : Int).toNat), .string (a0.extract ((ji29) : Int).toNat a0.size), .string x119002_1, .bool x119003_1, .bool x119004_1, .bool true] (0, 0) _ rfl (by (with_reducible repeat (first | refine blk_drewN ?_ _ | refine blk_drew ?_ | refine blk_alloc ?_ _)); refine blk_put (cs := #[.string (a0.extract 0 (x3_1 : Int).toNat), .string (a0.extract ((ji29) : Int).toNat a0.size), .string x119002_1, .bool x119003_1, .bool x119004_1, .bool x119005_1]) ?_ 5 _ rfl; (with_reducible repeat (first | refine blk_drewN ?_ _ | refine blk_drew ?_ | refine blk_alloc ?_ _)); refine blk_put (cs := #[.string (a0.extract 0 (x3_1 : Int).toNat), .string x119001_1, .string x119002_1, .bool x119003_1, .bool x119004_1, .bool x119005_1]) ?_ 1 _ rfl; (with_reducible repeat (first | refine blk_drewN ?_ _ | refine blk_drew ?_ | refine blk_alloc ?_ _)); refine blk_put (cs := #[.string x119000_1, .string x119001_1, .string x119002_1, .bool x119003_1, .bool x119004_1, .bool x119005_1]) ?_ 0 _ rfl; (with_reducible repeat (first | refine blk_drewN ?_ _ | refine blk_drew ?_ | refine blk_alloc ?_ _)); exact BK118.out) Tryz.underlying31 rfl (by kernel_rfl)) rfl ?_
                      exact ⟨by first | rfl | (simp [errW_none, errW_some] <;> rfl) | (simp only [← hji29]; first | rfl | (simp [errW_none, errW_some] <;> rfl)) | (simp [*, errW_none, errW_some] <;> rfl), by repeat (first | (with_reducible first | exact HB.out | apply below_alloc | apply pw_below_drewN | apply below_drew1 | refine below_set ?_ GE118.out) | exact HB.out)⟩
                    · rw [if_neg c31] at H
                      exact absurd H (by simp)
                  · rw [if_neg c30] at H
                    exact absurd H (by simp)
              · rw [if_neg c16] at H
                exact absurd H (by simp)
            · rw [if_neg c14] at H
              have c14b0 : ((bt a0 x3_1) == 46) = false := beq_eq_false_iff_ne.mpr c14
              have c14b1 : ((bt a0 x3_1) != 46) = true := bne_iff_ne.mpr c14
              have HC33 := Aside0.mk H
              clear H
              have p5 : 0 ≤ (x3_1 : Int) := of_decide_eq_true (by first | (with_reducible assumption) | assumption)
              have q5 : x3_1 < (a0.size : Int) := of_decide_eq_true (by first | (with_reducible assumption) | assumption)
              have hx5 := bt_at a0 x3_1
              replace p5 := eq_true p5
              replace q5 := eq_true q5
              have p13 : 0 ≤ (x3_1 : Int) := of_decide_eq_true (by first | (with_reducible assumption) | assumption)
              have q13 : x3_1 < (a0.size : Int) := of_decide_eq_true (by first | (with_reducible assumption) | assumption)
              have hx13 := bt_at a0 x3_1
              replace p13 := eq_true p13
              replace q13 := eq_true q13
              go_upto_region 15 with (fail)
              go_cut [66] (fun v66 wc => ∃ (kq : Nat) (x66_32 : Bool), v66 = .bool x66_32 ∧ Aside0 (gjson_parseObjectPath.j1 kq a0 x3_1 x66_32 x119000_1 x119001_1 x119002_1 x119003_1 x119004_1 x119005_1 = some (r1, r2, r3, r4, r5, r6)) ∧ Aside0 (kq ≤ k1) ∧ Aside0 (wc.heap[gb118]? = some (.cells #[.string x119000_1, .string x119001_1, .string x119002_1, .bool x119003_1, .bool x119004_1, .bool x119005_1] 31 (0, 0))) ∧ Aside0 (Below w.heap.size w wc))
              case first =>
                have H := HC33.out
                clear HC33
                by_cases c35 : (bt a0 x3_1) = 42
                · rw [if_pos c35] at H
                  have c35b0 : ((bt a0 x3_1) == 42) = true := beq_iff_eq.mpr c35
                  have c35b1 : ((bt a0 x3_1) != 42) = false := bne_eq_false_iff_eq.mpr c35
                  clear c35
                  (first | rw [c35b0] | (simp only [i64_w, i32_w]; rw [c35b0]) | skip)
                  have H' := Aside0.mk H
                  clear H
                  have p34 : 0 ≤ (x3_1 : Int) := of_decide_eq_true (by first | (with_reducible assumption) | assumption)
                  have q34 : x3_1 < (a0.size : Int) := of_decide_eq_true (by first | (with_reducible assumption) | assumption)
                  have hx34 := bt_at a0 x3_1
                  replace p34 := eq_true p34
                  replace q34 := eq_true q34
                  go_wp2
                  go_meet
                  case rel => exact ⟨_, (true), (by first | rfl | (simp; done) | (simp [*]; done)), H', ⟨by have := HK1.out; first | omega | exact Nat.le_refl _⟩, ⟨by (with_reducible repeat (first | refine blk_drewN ?_ _ | refine blk_drew ?_ | refine blk_alloc ?_ _)); exact BK118.out⟩, ⟨by repeat (first | (with_reducible first | exact HB.out | apply below_alloc | apply pw_below_drewN | apply below_drew1 | refine below_set ?_ GE118.out) | exact HB.out)⟩⟩
                · rw [if_neg c35] at H
                  have c35b0 : ((bt a0 x3_1) == 42) = false := beq_eq_false_iff_ne.mpr c35
                  have c35b1 : ((bt a0 x3_1) != 42) = true := bne_iff_ne.mpr c35
                  (first | rw [c35b0] | (simp only [i64_w, i32_w]; rw [c35b0]) | skip)
                  have H' := Aside0.mk H
                  clear H
                  have p34 : 0 ≤ (x3_1 : Int) := of_decide_eq_true (by first | (with_reducible assumption) | assumption)
                  have q34 : x3_1 < (a0.size : Int) := of_decide_eq_true (by first | (with_reducible assumption) | assumption)
                  have hx34 := bt_at a0 x3_1
                  replace p34 := eq_true p34
                  replace q34 := eq_true q34
                  have p36 : 0 ≤ (x3_1 : Int) := of_decide_eq_true (by first | (with_reducible assumption) | assumption)
                  have q36 : x3_1 < (a0.size : Int) := of_decide_eq_true (by first | (with_reducible assumption) | assumption)
                  have hx36 := bt_at a0 x3_1
                  replace p36 := eq_true p36
                  replace q36 := eq_true q36
                  go_wp2
                  go_meet
                  case rel => exact ⟨_, (((bt a0 x3_1) == 63)), (by first | rfl | (simp; done) | (simp [*]; done)), H', ⟨by have := HK1.out; first | omega | exact Nat.le_refl _⟩, ⟨by (with_reducible repeat (first | refine blk_drewN ?_ _ | refine blk_drew ?_ | refine blk_alloc ?_ _)); exact BK118.out⟩, ⟨by repeat (first | (with_reducible first | exact HB.out | apply below_alloc | apply pw_below_drewN | apply below_drew1 | refine below_set ?_ GE118.out) | exact HB.out)⟩⟩
              case rest =>
                clear HC33
                try clear c1
                try clear p1
                try clear q1
                try clear hx1
                try clear c2
                try clear p2
                try clear c3
                try clear c3b0
                try clear p3
                try clear q3
                try clear hx3
                try clear c4
                try clear c4b0
                try clear p5
                try clear q5
                try clear hx5
                try clear c6
                try clear c6b0
                try clear c6b1
                try clear p6
                try clear c7
                try clear c7b0
                try clear c8
                try clear c8b0
                try clear c8b1
                try clear c10
                try clear c10b0
                try clear c10b1
                try clear c11
                try clear c11b0
                try clear c11b1
                try clear p13
                try clear q13
                try clear hx13
                try clear c14
                try clear c14b0
                try clear c14b1
                try clear c15
                try clear c15b0
                try clear c16
                try clear c16b0
                try clear c16b1
                try clear c17
                try clear c17b0
                try clear c19
                try clear c19b0
                try clear c19b1
                try clear c20
                try clear c20b0
                try clear c20b1
                try clear c22
                try clear c23
                try clear c23b0
                try clear c24
                try clear c24b0
                try clear c26
                try clear c26b0
                try clear c27
                try clear c27b0
                try clear c30
                try clear c30b0
                try clear c30b1
                try clear c31
                try clear c31b0
                try clear c31b1
                try clear p34
                try clear q34
                try clear hx34
                try clear c35
                try clear c35b0
                try clear c35b1
                try clear p36
                try clear q36
                try clear hx36
                try clear hcz12_0
                try clear hcz12_1
                try clear hcz12_2
                try clear hcz12_3
                try clear hcz12_4
                try clear hcz12_5
                try clear hcz25_0
                try clear hcz25_1
                try clear hcz25_2
                try clear hcz25_3
                try clear hcz25_4
                try clear hcz25_5
                try clear hcz28_0
                try clear hcz28_1
                try clear hcz28_2
                try clear hcz28_3
                try clear hcz28_4
                try clear hcz28_5
                try clear hcz32_0
                try clear hcz32_1
                try clear hcz32_2
                try clear hcz32_3
                try clear hcz32_4
                try clear hcz32_5
                try clear hfz12_0
                try clear hfz12_1
                try clear hfz12_2
                try clear hfz12_3
                try clear hfz12_4
                try clear hfz12_5
                try clear hfz25_0
                try clear hfz25_1
                try clear hfz25_2
                try clear hfz25_3
                try clear hfz25_4
                try clear hfz25_5
                try clear hfz28_0
                try clear hfz28_1
                try clear hfz28_2
                try clear hfz28_3
                try clear hfz28_4
                try clear hfz28_5
                try clear hfz32_0
                try clear hfz32_1
                try clear hfz32_2
                try clear hfz32_3
                try clear hfz32_4
                try clear hfz32_5
                try clear p13
                try clear p2
                try clear p34
                try clear p36
                try clear p5
                try clear q13
                try clear q34
                try clear q36
                try clear q5
                obtain ⟨kq, x66_32, rfl, HA, HJ32, BK118, HB⟩ := hcut
                cases kq with
                | zero => exact absurd HA.out (by simp [gjson_parseObjectPath.j1])
                | succ kj32 =>
                  have H := HA.out
                  clear HA
                  simp only [gjson_parseObjectPath.j1] at H
                  by_cases c37 : x66_32 = true
                  · subst c37
                    have H1 : (gjson_parseObjectPath.l0 kj32 a0 (wrap64 (x3_1 + 1)) x119000_1 x119001_1 x119002_1 x119003_1 true x119005_1) = some (r1, r2, r3, r4, r5, r6) := by rw [if_pos rfl] at H; exact H
                    clear H
                    have H := H1
                    clear H1
                    have H' := Aside0.mk H
                    clear H
                    have hcz38_0 : wc.cell? ⟨gb118, 0, none⟩ = some (.string x119000_1) := (blk_cell BK118.out 0).trans rfl
                    have hcz38_1 : wc.cell? ⟨gb118, 1, none⟩ = some (.string x119001_1) := (blk_cell BK118.out 1).trans rfl
                    have hcz38_2 : wc.cell? ⟨gb118, 2, none⟩ = some (.string x119002_1) := (blk_cell BK118.out 2).trans rfl
                    have hcz38_3 : wc.cell? ⟨gb118, 3, none⟩ = some (.bool x119003_1) := (blk_cell BK118.out 3).trans rfl
                    have hcz38_4 : wc.cell? ⟨gb118, 4, none⟩ = some (.bool x119004_1) := (blk_cell BK118.out 4).trans rfl
                    have hcz38_5 : wc.cell? ⟨gb118, 5, none⟩ = some (.bool x119005_1) := (blk_cell BK118.out 5).trans rfl
                    have hfz38_0 := blk_frozen BK118.out 0
                    have hfz38_1 := blk_frozen BK118.out 1
                    have hfz38_2 := blk_frozen BK118.out 2
                    have hfz38_3 := blk_frozen BK118.out 3
                    have hfz38_4 := blk_frozen BK118.out 4
                    have hfz38_5 := blk_frozen BK118.out 5
                    go_wp2
                    go_roundg kj32
                    case measure => have := HK1.out; have := HJ32.out; omega
                    case rel => exact ⟨(wrap64 (x3_1 + 1)), (x119000_1), (x119001_1), (x119002_1), (x119003_1), (true), (x119005_1), (by first | rfl | (simp; done) | (simp [*]; done)), H', ⟨by have := HK1.out; have := HJ32.out; omega⟩, ⟨by (with_reducible repeat (first | refine blk_drewN ?_ _ | refine blk_drew ?_ | refine blk_alloc ?_ _)); refine blk_put (cs := #[.string x119000_1, .string x119001_1, .string x119002_1, .bool x119003_1, .bool x119004_1, .bool x119005_1]) ?_ 4 _ rfl; (with_reducible repeat (first | refine blk_drewN ?_ _ | refine blk_drew ?_ | refine blk_alloc ?_ _)); exact BK118.out⟩, ⟨by repeat (first | (with_reducible first | exact HB.out | apply below_alloc | apply pw_below_drewN | apply below_drew1 | refine below_set ?_ GE118.out) | exact HB.out)⟩⟩
                  · replace c37 := Bool.eq_false_iff.mpr c37
                    subst c37
                    have H1 : (if 0 ≤ x3_1 then (if x3_1 < (a0.size : Int) then (if (bt a0 x3_1) = 92 then (if x3_1 ≤ (a0.size : Int) then (if (a0.extract 0 (x3_1 : Int).toNat).size ≤ 140737488355328 then ((some (bytesOf (a0.extract 0 (x3_1 : Int).toNat) : List Int)).bind fun y120 => (if (wrap64 (x3_1 + 1)) < (a0.size : Int) then (if 0 ≤ (wrap64 (x3_1 + 1)) then (if y120.length < 140737488355328 then (gjson_parseObjectPath.l1 kj32 a0 (wrap64 ((wrap64 (x3_1 + 1)) + 1)) (y120 ++ [bt a0 (wrap64 (x3_1 + 1))]) x119000_1 x119001_1 x119002_1 x119003_1 x119004_1 x119005_1) else (none)) else (none)) else (some (strOfNums y120, x119001_1, x119002_1, x119003_1, x119004_1, x119005_1)))) else (none)) else (none)) else (gjson_parseObjectPath.l0 kj32 a0 (wrap64 (x3_1 + 1)) x119000_1 x119001_1 x119002_1 x119003_1 x119004_1 x119005_1)) else (none)) else (none)) = some (r1, r2, r3, r4, r5, r6) := by rw [if_neg (show ¬ (false = true) by decide)] at H; exact H
                    clear H
                    have H := H1
                    clear H1
                    by_cases c39 : 0 ≤ x3_1
                    · rw [if_pos c39] at H
                      have c39b0 : decide (0 ≤ x3_1) = true := decide_eq_true c39
                      clear c39
                      by_cases c40 : x3_1 < (a0.size : Int)
                      · rw [if_pos c40] at H
                        have c40b0 : decide (x3_1 < (a0.size : Int)) = true := decide_eq_true c40
                        clear c40
                        by_cases c42 : (bt a0 x3_1) = 92
                        · rw [if_pos c42] at H
                          have c42b0 : ((bt a0 x3_1) == 92) = true := beq_iff_eq.mpr c42
                          have c42b1 : ((bt a0 x3_1) != 92) = false := bne_eq_false_iff_eq.mpr c42
                          clear c42
                          have c43b0 := eq_true (of_decide_eq_true (by first | (with_reducible assumption) | assumption) : 0 ≤ x3_1)
                          by_cases c44 : x3_1 ≤ (a0.size : Int)
                          · rw [if_pos c44] at H
                            have c44b0 := eq_true c44
                            have c44b1 : decide (x3_1 ≤ (a0.size : Int)) = true := decide_eq_true c44
                            clear c44
                            by_cases c45 : (a0.extract 0 (x3_1 : Int).toNat).size ≤ 140737488355328
                            · rw [if_pos c45] at H
                              have c45b0 := eq_true c45
                              have c45b1 : decide ((a0.extract 0 (x3_1 : Int).toNat).size ≤ 140737488355328) = true := decide_eq_true c45
                              clear c45
                              obtain ⟨y120, hy120⟩ : ∃ y_ : List Int, y_ = (bytesOf (a0.extract 0 (x3_1 : Int).toNat)) := ⟨_, rfl⟩
                              replace H : (if (wrap64 (x3_1 + 1)) < (a0.size : Int) then (if 0 ≤ (wrap64 (x3_1 + 1)) then (if y120.length < 140737488355328 then (gjson_parseObjectPath.l1 kj32 a0 (wrap64 ((wrap64 (x3_1 + 1)) + 1)) (y120 ++ [bt a0 (wrap64 (x3_1 + 1))]) x119000_1 x119001_1 x119002_1 x119003_1 x119004_1 x119005_1) else (none)) else (none)) else (some (strOfNums y120, x119001_1, x119002_1, x119003_1, x119004_1, x119005_1))) = some (r1, r2, r3, r4, r5, r6) := by first | (rw [hy120]; with_reducible exact H) | (have H2_ := (Option.bind_some _ _).symm.trans H; rw [hy120]; with_reducible exact H2_) | (have H2_ := (Option.bind_some _ _).symm.trans H; with_reducible exact H2_) | with_reducible exact H | (rw [hy120]; exact H) | exact H
                              have Ny120 := Aside0.mk hy120
                              clear hy120
                              by_cases c46 : (wrap64 (x3_1 + 1)) < (a0.size : Int)
                              · rw [if_pos c46] at H
                                have c46b0 : decide ((wrap64 (x3_1 + 1)) < (a0.size : Int)) = true := decide_eq_true c46
                                clear c46
                                obtain ⟨ji47, hji47⟩ : ∃ j_ : Int, (wrap64 (x3_1 + 1)) = j_ := ⟨_, rfl⟩
                                replace H : (if 0 ≤ (ji47) then (if y120.length < 140737488355328 then (gjson_parseObjectPath.l1 kj32 a0 (wrap64 ((ji47) + 1)) (y120 ++ [bt a0 (ji47)]) x119000_1 x119001_1 x119002_1 x119003_1 x119004_1 x119005_1) else (none)) else (none)) = some (r1, r2, r3, r4, r5, r6) := by first | (rw [hji47] at H; exact H) | (simp only [hji47] at H ⊢; exact H)
                                (try rw [hji47] at c46b0)
                                have hji47w : (IntKind.i64.wrap (x3_1 + 1)) = ji47 := (i64_w _).trans hji47
                                by_cases c48 : 0 ≤ (ji47)
                                · rw [if_pos c48] at H
                                  have c48b0 : decide (0 ≤ (ji47)) = true := decide_eq_true c48
                                  clear c48
                                  by_cases c50 : y120.length < 140737488355328
                                  · rw [if_pos c50] at H
                                    have LMc50 := Aside0.mk c50
                                    clear c50
                                    obtain ⟨y123, hy123⟩ : ∃ y_ : List Int, y_ = (y120 ++ [bt a0 (ji47)]) := ⟨_, rfl⟩
                                    replace H : (gjson_parseObjectPath.l1 kj32 a0 (wrap64 ((ji47) + 1)) y123 x119000_1 x119001_1 x119002_1 x119003_1 x119004_1 x119005_1) = some (r1, r2, r3, r4, r5, r6) := by first | (rw [hy123]; with_reducible exact H) | (have H2_ := (Option.bind_some _ _).symm.trans H; rw [hy123]; with_reducible exact H2_) | (have H2_ := (Option.bind_some _ _).symm.trans H; with_reducible exact H2_) | with_reducible exact H | (rw [hy123]; exact H) | exact H
                                    have Ny123 := Aside0.mk hy123
                                    clear hy123
                                    have H' := Aside0.mk H
                                    clear H
                                    have p41 : 0 ≤ (x3_1 : Int) := of_decide_eq_true (by first | (with_reducible assumption) | assumption)
                                    have q41 : x3_1 < (a0.size : Int) := of_decide_eq_true (by first | (with_reducible assumption) | assumption)
                                    have hx41 := bt_at a0 x3_1
                                    replace p41 := eq_true p41
                                    replace q41 := eq_true q41
                                    go_wp2_with (first | ((with_reducible refine gate_dst (N := 75) rfl ?_); refine KdB.R_conv 5 rfl (N := 75) rfl 9 28 _ rfl (a0.extract 0 (x3_1 : Int).toNat) rfl Tryz.underlying9 Tryz.underlying28 Tryz.underlying5 (ok := fun _ => True) trivial (of_decide_eq_true (by first | (with_reducible assumption) | assumption)) (Below.refl _ _) (Nat.le_refl _) ?_; intro v121 w51 ho52 hb hg_ hnew_; clear hg_ hnew_; (first | rw [← Ny120.out] at ho52 | (simp only [Int.reduceToNat] at ho52; rw [← Ny120.out] at ho52)); have n0_ := Aside0.mk (KdB.R_lower ho52 (below_size (by repeat (first | (with_reducible first | exact HB.out | apply below_alloc | apply pw_below_drewN | apply below_drew1 | refine below_set ?_ GE118.out) | exact HB.out)))); have n1_ := Aside0.mk (blk_below (g := gb118) (o := .cells #[.string x119000_1, .string x119001_1, .string x119002_1, .bool x119003_1, .bool x119004_1, .bool x119005_1] 31 (0, 0)) (by (with_reducible repeat (first | refine blk_drewN ?_ _ | refine blk_drew ?_ | refine blk_alloc ?_ _)); exact BK118.out) hb); have n2_ := Aside0.mk (below_step (by repeat (first | (with_reducible first | exact HB.out | apply below_alloc | apply pw_below_drewN | apply below_drew1 | refine below_set ?_ GE118.out) | exact HB.out)) hb); clear BK118; clear HB; have HO122 := n0_; have BK118 := n1_; have HB := n2_; clear n0_ n1_ n2_; clear hb ho52; have p49 : 0 ≤ ((ji47) : Int) := of_decide_eq_true (by first | (with_reducible assumption) | assumption); have q49 : (ji47) < (a0.size : Int) := of_decide_eq_true (by first | (with_reducible assumption) | assumption); have hx49 := bt_at a0 (ji47); replace p49 := eq_true p49; replace q49 := eq_true q49) | ((with_reducible refine gate_builtin (b := .append) (xs := #[.tmp 82, .tmp 86]) rfl ?_); at_builtin; refine KdB.R_append (Kd.int .u8) (w0 := w) w.heap.size rfl (.tmp 82) (.tmp 86) 28 5 (.int .u8 0) 1 rfl Tryz.underlying28 info5 rfl (by decide) (by omega) v121 y120 (bt a0 (ji47)) [.int .u8 (bt a0 (ji47))] (fun _ => True) (fun _ => False) rfl rfl ?aP (fun _ hk => hk.elim) ?aF ?aO ?aB ?aS ?aL ?_; (case aP => exact rfl); (case aB => exact (by repeat (first | (with_reducible first | exact HB.out | apply below_alloc | apply pw_below_drewN | apply below_drew1 | refine below_set ?_ GE118.out) | exact HB.out))); (case aF => exact (fun _ _ => trivial)); (case aO => exact (by (with_reducible repeat (first | apply KdB.R_alloc | apply KdB.R_drewN | apply KdB.R_drew)); exact HO122.out)); (case aS => exact (below_size (by repeat (first | (with_reducible first | exact HB.out | apply below_alloc | apply pw_below_drewN | apply below_drew1 | refine below_set ?_ GE118.out) | exact HB.out)))); (case aL => have := LMc50.out; omega); intro v124 w53 ho hb hg hat; rw [← Ny123.out] at ho; have n0_ := Aside0.mk (blk_grown (g := gb118) (o := .cells #[.string x119000_1, .string x119001_1, .string x119002_1, .bool x119003_1, .bool x119004_1, .bool x119005_1] 31 (0, 0)) (by (with_reducible repeat (first | refine blk_drewN ?_ _ | refine blk_drew ?_ | refine blk_alloc ?_ _)); exact BK118.out) hg (KdB.R_ne HO122.out BK118.out (by decide))); have n1_ := Aside0.mk (hb); have n2_ := Aside0.mk (ho); clear BK118; clear HB; clear HO122; have BK118 := n0_; have HB := n1_; have HO125 := n2_; clear n0_ n1_ n2_; clear ho hb hg hat))
                                    go_loopg [3, 4] kj32 (fun kq v3 v4 w' => ∃ (x3_3 : Int) (x4_3 : List Int) (x119000_3 : ByteArray) (x119001_3 : ByteArray) (x119002_3 : ByteArray) (x119003_3 : Bool) (x119004_3 : Bool) (x119005_3 : Bool), v3 = .int .i64 x3_3 ∧ Aside0 (gjson_parseObjectPath.l1 kq a0 x3_3 x4_3 x119000_3 x119001_3 x119002_3 x119003_3 x119004_3 x119005_3 = some (r1, r2, r3, r4, r5, r6)) ∧ Aside0 (kq ≤ kj32) ∧ Aside0 (KdB.R (Kd.int .u8) 5 w' w.heap.size (fun _ => True) v4 x4_3) ∧ Aside0 (w'.heap[gb118]? = some (.cells #[.string x119000_3, .string x119001_3, .string x119002_3, .bool x119003_3, .bool x119004_3, .bool x119005_3] 31 (0, 0))) ∧ Aside0 (Below w.heap.size w w'))
                                    case atStart => exact ⟨(wrap64 ((ji47) + 1)), (y123), (x119000_1), (x119001_1), (x119002_1), (x119003_1), (x119004_1), (x119005_1), (by first | rfl | (simp; done) | (simp only [← hji47] <;> (first | rfl | simp)) | (simp [*]; done)), H', ⟨Nat.le_refl _⟩, ⟨by (with_reducible repeat (first | apply KdB.R_alloc | apply KdB.R_drewN | apply KdB.R_drew)); exact HO125.out⟩, ⟨by (with_reducible repeat (first | refine blk_drewN ?_ _ | refine blk_drew ?_ | refine blk_alloc ?_ _)); exact BK118.out⟩, ⟨by repeat (first | (with_reducible first | exact HB.out | apply below_alloc | apply pw_below_drewN | apply below_drew1 | refine below_set ?_ GE118.out) | exact HB.out)⟩⟩
                                    case round =>
                                      clear H'
                                      try clear c1
                                      try clear p1
                                      try clear q1
                                      try clear hx1
                                      try clear c2
                                      try clear p2
                                      try clear c3
                                      try clear c3b0
                                      try clear p3
                                      try clear q3
                                      try clear hx3
                                      try clear c4
                                      try clear c4b0
                                      try clear p4
                                      try clear q4
                                      try clear hx4
                                      try clear c5
                                      try clear p5
                                      try clear q5
                                      try clear hx5
                                      try clear c6
                                      try clear c6b0
                                      try clear c6b1
                                      try clear p6
                                      try clear c7
                                      try clear c7b0
                                      try clear c8
                                      try clear c8b0
                                      try clear c8b1
                                      try clear c10
                                      try clear c10b0
                                      try clear c10b1
                                      try clear c11
                                      try clear c11b0
                                      try clear c11b1
                                      try clear p13
                                      try clear q13
                                      try clear hx13
                                      try clear c14
                                      try clear c14b0
                                      try clear c14b1
                                      try clear c15
                                      try clear c15b0
                                      try clear c16
                                      try clear c16b0
                                      try clear c16b1
                                      try clear c17
                                      try clear c17b0
                                      try clear c19
                                      try clear c19b0
                                      try clear c19b1
                                      try clear c20
                                      try clear c20b0
                                      try clear c20b1
                                      try clear c22
                                      try clear c23
                                      try clear c23b0
                                      try clear c24
                                      try clear c24b0
                                      try clear c26
                                      try clear c26b0
                                      try clear c27
                                      try clear c27b0
                                      try clear c30
                                      try clear c30b0
                                      try clear c30b1
                                      try clear c31
                                      try clear c31b0
                                      try clear c31b1
                                      try clear p34
                                      try clear q34
                                      try clear hx34
                                      try clear c35
                                      try clear c35b0
                                      try clear c35b1
                                      try clear p36
                                      try clear q36
                                      try clear hx36
                                      try clear c37
                                      try clear c39
                                      try clear c39b0
                                      try clear c40
                                      try clear c40b0
                                      try clear p41
                                      try clear q41
                                      try clear hx41
                                      try clear c42
                                      try clear c42b0
                                      try clear c42b1
                                      try clear c43
                                      try clear c43b0
                                      try clear c44
                                      try clear c44b0
                                      try clear c44b1
                                      try clear c45
                                      try clear c45b0
                                      try clear c45b1
                                      try clear c46
                                      try clear c46b0
                                      try clear c48
                                      try clear c48b0
                                      try clear p49
                                      try clear q49
                                      try clear hx49
                                      try clear c50
                                      try clear hcz12_0
                                      try clear hcz12_1
                                      try clear hcz12_2
                                      try clear hcz12_3
                                      try clear hcz12_4
                                      try clear hcz12_5
                                      try clear hcz25_0
                                      try clear hcz25_1
                                      try clear hcz25_2
                                      try clear hcz25_3
                                      try clear hcz25_4
                                      try clear hcz25_5
                                      try clear hcz28_0
                                      try clear hcz28_1
                                      try clear hcz28_2
                                      try clear hcz28_3
                                      try clear hcz28_4
                                      try clear hcz28_5
                                      try clear hcz32_0
                                      try clear hcz32_1
                                      try clear hcz32_2
                                      try clear hcz32_3
                                      try clear hcz32_4
                                      try clear hcz32_5
                                      try clear hcz38_0
                                      try clear hcz38_1
                                      try clear hcz38_2
                                      try clear hcz38_3
                                      try clear hcz38_4
                                      try clear hcz38_5
                                      try clear hfz12_0
                                      try clear hfz12_1
                                      try clear hfz12_2
                                      try clear hfz12_3
                                      try clear hfz12_4
                                      try clear hfz12_5
                                      try clear hfz25_0
                                      try clear hfz25_1
                                      try clear hfz25_2
                                      try clear hfz25_3
                                      try clear hfz25_4
                                      try clear hfz25_5
                                      try clear hfz28_0
                                      try clear hfz28_1
                                      try clear hfz28_2
                                      try clear hfz28_3
                                      try clear hfz28_4
                                      try clear hfz28_5
                                      try clear hfz32_0
                                      try clear hfz32_1
                                      try clear hfz32_2
                                      try clear hfz32_3
                                      try clear hfz32_4
                                      try clear hfz32_5
                                      try clear hfz38_0
                                      try clear hfz38_1
                                      try clear hfz38_2
                                      try clear hfz38_3
                                      try clear hfz38_4
                                      try clear hfz38_5
                                      try clear p1
                                      try clear p13
                                      try clear p2
                                      try clear p3
                                      try clear p34
                                      try clear p36
                                      try clear p41
                                      try clear p49
                                      try clear p5
                                      try clear p6
                                      try clear q1
                                      try clear q13
                                      try clear q3
                                      try clear q34
                                      try clear q36
                                      try clear q41
                                      try clear q49
                                      try clear q5
                                      obtain ⟨x3_3, x4_3, x119000_3, x119001_3, x119002_3, x119003_3, x119004_3, x119005_3, rfl, HA, HK3, HO_4, BK118, HB⟩ := hrel
                                      cases gk with
                                      | zero => exact absurd HA.out (by simp [gjson_parseObjectPath.l1])
                                      | succ k3 =>
                                        have H := HA.out
                                        clear HA
                                        simp only [gjson_parseObjectPath.l1] at H
                                        by_cases c54 : x3_3 < (a0.size : Int)
                                        · rw [if_pos c54] at H
                                          have c54b0 : decide (x3_3 < (a0.size : Int)) = true := decide_eq_true c54
                                          clear c54
                                          by_cases c55 : 0 ≤ x3_3
                                          · rw [if_pos c55] at H
                                            have c55b0 : decide (0 ≤ x3_3) = true := decide_eq_true c55
                                            clear c55
                                            by_cases c57 : (bt a0 x3_3) = 92
                                            · rw [if_pos c57] at H
                                              have c57b0 : ((bt a0 x3_3) == 92) = true := beq_iff_eq.mpr c57
                                              have c57b1 : ((bt a0 x3_3) != 92) = false := bne_eq_false_iff_eq.mpr c57
                                              clear c57
                                              by_cases c58 : (wrap64 (x3_3 + 1)) < (a0.size : Int)
                                              · rw [if_pos c58] at H
                                                have c58b0 : decide ((wrap64 (x3_3 + 1)) < (a0.size : Int)) = true := decide_eq_true c58
                                                clear c58
                                                obtain ⟨ji59, hji59⟩ : ∃ j_ : Int, (wrap64 (x3_3 + 1)) = j_ := ⟨_, rfl⟩
                                                replace H : (if 0 ≤ (ji59) then (if x4_3.length < 140737488355328 then (gjson_parseObjectPath.l1 k3 a0 (wrap64 ((ji59) + 1)) (x4_3 ++ [bt a0 (ji59)]) x119000_3 x119001_3 x119002_3 x119003_3 x119004_3 x119005_3) else (none)) else (none)) = some (r1, r2, r3, r4, r5, r6) := by first | (rw [hji59] at H; exact H) | (simp only [hji59] at H ⊢; exact H)
                                                (try rw [hji59] at c58b0)
                                                have hji59w : (IntKind.i64.wrap (x3_3 + 1)) = ji59 := (i64_w _).trans hji59
                                                by_cases c60 : 0 ≤ (ji59)
                                                · rw [if_pos c60] at H
                                                  have c60b0 : decide (0 ≤ (ji59)) = true := decide_eq_true c60
                                                  clear c60
                                                  by_cases c62 : x4_3.length < 140737488355328
                                                  · rw [if_pos c62] at H
                                                    have LMc62 := Aside0.mk c62
                                                    clear c62
                                                    obtain ⟨y126, hy126⟩ : ∃ y_ : List Int, y_ = (x4_3 ++ [bt a0 (ji59)]) := ⟨_, rfl⟩
                                                    replace H : (gjson_parseObjectPath.l1 k3 a0 (wrap64 ((ji59) + 1)) y126 x119000_3 x119001_3 x119002_3 x119003_3 x119004_3 x119005_3) = some (r1, r2, r3, r4, r5, r6) := by first | (rw [hy126]; with_reducible exact H) | (have H2_ := (Option.bind_some _ _).symm.trans H; rw [hy126]; with_reducible exact H2_) | (have H2_ := (Option.bind_some _ _).symm.trans H; with_reducible exact H2_) | with_reducible exact H | (rw [hy126]; exact H) | exact H
                                                    have Ny126 := Aside0.mk hy126
                                                    clear hy126
                                                    have H' := Aside0.mk H
                                                    clear H
                                                    have p56 : 0 ≤ (x3_3 : Int) := of_decide_eq_true (by first | (with_reducible assumption) | assumption)
                                                    have q56 : x3_3 < (a0.size : Int) := of_decide_eq_true (by first | (with_reducible assumption) | assumption)
                                                    have hx56 := bt_at a0 x3_3
                                                    replace p56 := eq_true p56
                                                    replace q56 := eq_true q56
                                                    have p61 : 0 ≤ ((ji59) : Int) := of_decide_eq_true (by first | (with_reducible assumption) | assumption)
                                                    have q61 : (ji59) < (a0.size : Int) := of_decide_eq_true (by first | (with_reducible assumption) | assumption)
                                                    have hx61 := bt_at a0 (ji59)
                                                    replace p61 := eq_true p61
                                                    replace q61 := eq_true q61
                                                    go_wp2_with (first | ((with_reducible refine gate_builtin (b := .append) (xs := #[.tmp 106, .tmp 110]) rfl ?_); at_builtin; refine KdB.R_append (Kd.int .u8) (w0 := w) w.heap.size rfl (.tmp 106) (.tmp 110) 28 5 (.int .u8 0) 1 rfl Tryz.underlying28 info5 rfl (by decide) (by omega) u4 x4_3 (bt a0 (ji59)) [.int .u8 (bt a0 (ji59))] (fun _ => True) (fun _ => False) rfl rfl ?aP (fun _ hk => hk.elim) ?aF ?aO ?aB ?aS ?aL ?_; (case aP => exact rfl); (case aB => exact (by repeat (first | (with_reducible first | exact HB.out | apply below_alloc | apply pw_below_drewN | apply below_drew1 | refine below_set ?_ GE118.out) | exact HB.out))); (case aF => exact (fun _ _ => trivial)); (case aO => exact (by (with_reducible repeat (first | apply KdB.R_alloc | apply KdB.R_drewN | apply KdB.R_drew)); exact HO_4.out)); (case aS => exact (below_size (by repeat (first | (with_reducible first | exact HB.out | apply below_alloc | apply pw_below_drewN | apply below_drew1 | refine below_set ?_ GE118.out) | exact HB.out)))); (case aL => have := LMc62.out; omega); intro v127 w63 ho hb hg hat; rw [← Ny126.out] at ho; have n0_ := Aside0.mk (blk_grown (g := gb118) (o := .cells #[.string x119000_3, .string x119001_3, .string x119002_3, .bool x119003_3, .bool x119004_3, .bool x119005_3] 31 (0, 0)) (by (with_reducible repeat (first | refine blk_drewN ?_ _ | refine blk_drew ?_ | refine blk_alloc ?_ _)); exact BK118.out) hg (KdB.R_ne HO_4.out BK118.out (by decide))); have n1_ := Aside0.mk (hb); have n2_ := Aside0.mk (ho); clear BK118; clear HB; clear HO_4; have BK118 := n0_; have HB := n1_; have HO128 := n2_; clear n0_ n1_ n2_; clear ho hb hg hat))
                                                    go_roundg k3
                                                    case measure => have := HK1.out; have := HJ32.out; have := HK3.out; omega
                                                    case rel => exact ⟨(wrap64 ((ji59) + 1)), (y126), (x119000_3), (x119001_3), (x119002_3), (x119003_3), (x119004_3), (x119005_3), (by first | rfl | (simp; done) | (simp only [← hji59] <;> (first | rfl | simp)) | (simp [*]; done)), H', ⟨by have := HK1.out; have := HJ32.out; have := HK3.out; omega⟩, ⟨by (with_reducible repeat (first | apply KdB.R_alloc | apply KdB.R_drewN | apply KdB.R_drew)); exact HO128.out⟩, ⟨by (with_reducible repeat (first | refine blk_drewN ?_ _ | refine blk_drew ?_ | refine blk_alloc ?_ _)); exact BK118.out⟩, ⟨by repeat (first | (with_reducible first | exact HB.out | apply below_alloc | apply pw_below_drewN | apply below_drew1 | refine below_set ?_ GE118.out) | exact HB.out)⟩⟩
                                                  · rw [if_neg c62] at H
                                                    exact absurd H (by simp)
                                                · rw [if_neg c60] at H
                                                  exact absurd H (by simp)
                                              · rw [if_neg c58] at H
                                                have c58b0 : decide ((wrap64 (x3_3 + 1)) < (a0.size : Int)) = false := decide_eq_false c58
                                                clear c58
                                                have H' := Aside0.mk H
                                                clear H
                                                have p56 : 0 ≤ (x3_3 : Int) := of_decide_eq_true (by first | (with_reducible assumption) | assumption)
                                                have q56 : x3_3 < (a0.size : Int) := of_decide_eq_true (by first | (with_reducible assumption) | assumption)
                                                have hx56 := bt_at a0 x3_3
                                                replace p56 := eq_true p56
                                                replace q56 := eq_true q56
                                                go_wp2
                                                go_roundg k3
                                                case measure => have := HK1.out; have := HJ32.out; have := HK3.out; omega
                                                case rel => exact ⟨(wrap64 ((wrap64 (x3_3 + 1)) + 1)), (x4_3), (x119000_3), (x119001_3), (x119002_3), (x119003_3), (x119004_3), (x119005_3), (by first | rfl | (simp; done) | (simp [*]; done)), H', ⟨by have := HK1.out; have := HJ32.out; have := HK3.out; omega⟩, ⟨by (with_reducible repeat (first | apply KdB.R_alloc | apply KdB.R_drewN | apply KdB.R_drew)); exact HO_4.out⟩, ⟨by (with_reducible repeat (first | refine blk_drewN ?_ _ | refine blk_drew ?_ | refine blk_alloc ?_ _)); exact BK118.out⟩, ⟨by repeat (first | (with_reducible first | exact HB.out | apply below_alloc | apply pw_below_drewN | apply below_drew1 | refine below_set ?_ GE118.out) | exact HB.out)⟩⟩
                                            · rw [if_neg c57] at H
                                              have c57b0 : ((bt a0 x3_3) == 92) = false := beq_eq_false_iff_ne.mpr c57
                                              have c57b1 : ((bt a0 x3_3) != 92) = true := bne_iff_ne.mpr c57
                                              by_cases c65 : (bt a0 x3_3) = 46
                                              · rw [if_pos c65] at H
                                                have c65b0 : ((bt a0 x3_3) == 46) = true := beq_iff_eq.mpr c65
                                                have c65b1 : ((bt a0 x3_3) != 46) = false := bne_eq_false_iff_eq.mpr c65
                                                clear c65
                                                by_cases c66 : x3_3 < (wrap64 ((a0.size : Int) - 1))
                                                · rw [if_pos c66] at H
                                                  have c66b0 : decide (x3_3 < (wrap64 ((a0.size : Int) - 1))) = true := decide_eq_true c66
                                                  clear c66
                                                  obtain ⟨ji67, hji67⟩ : ∃ j_ : Int, (wrap64 (x3_3 + 1)) = j_ := ⟨_, rfl⟩
                                                  replace H : (if 0 ≤ (ji67) then (if (ji67) ≤ (a0.size : Int) then ((gjson_isDotPiperChar.f k3 (a0.extract ((ji67) : Int).toNat a0.size)).bind fun t129 => (if t129 = true then (some (strOfNums x4_3, x119001_3, a0.extract ((ji67) : Int).toNat a0.size, true, x119004_3, x119005_3)) else (some (strOfNums x4_3, a0.extract ((ji67) : Int).toNat a0.size, x119002_3, x119003_3, x119004_3, true)))) else (none)) else (none)) = some (r1, r2, r3, r4, r5, r6) := by first | (rw [hji67] at H; exact H) | (simp only [hji67] at H ⊢; exact H)
                                                  have hji67w : (IntKind.i64.wrap (x3_3 + 1)) = ji67 := (i64_w _).trans hji67
                                                  by_cases c68 : 0 ≤ (ji67)
                                                  · rw [if_pos c68] at H
                                                    have c68b0 := eq_true c68
                                                    have c68b1 : decide (0 ≤ (ji67)) = true := decide_eq_true c68
                                                    clear c68
                                                    by_cases c69 : (ji67) ≤ (a0.size : Int)
                                                    · rw [if_pos c69] at H
                                                      have c69b0 := eq_true c69
                                                      have c69b1 : decide ((ji67) ≤ (a0.size : Int)) = true := decide_eq_true c69
                                                      clear c69
                                                      replace H := Option.bind_eq_some_iff.mp H
                                                      obtain ⟨t129, A700, H⟩ := H
                                                      replace H : (if t129 = true then (some (strOfNums x4_3, x119001_3, a0.extract ((ji67) : Int).toNat a0.size, true, x119004_3, x119005_3)) else (some (strOfNums x4_3, a0.extract ((ji67) : Int).toNat a0.size, x119002_3, x119003_3, x119004_3, true))) = some (r1, r2, r3, r4, r5, r6) := H
                                                      have A70 := Aside0.mk A700
                                                      clear A700
                                                      by_cases c71 : t129 = true
                                                      · subst c71
                                                        have H1 : (some (strOfNums x4_3, x119001_3, a0.extract ((ji67) : Int).toNat a0.size, true, x119004_3, x119005_3)) = some (r1, r2, r3, r4, r5, r6) := by rw [if_pos rfl] at H; exact H
                                                        clear H
                                                        have H := H1
                                                        clear H1
                                                        have c72b0 := eq_true (of_decide_eq_true (by first | (with_reducible assumption) | assumption) : 0 ≤ (ji67))
                                                        have c73b0 := eq_true (of_decide_eq_true (by first | (with_reducible assumption) | assumption) : (ji67) ≤ (a0.size : Int))
                                                        simp only [Option.some.injEq, Prod.mk.injEq] at H
                                                        obtain ⟨rfl, rfl, rfl, rfl, rfl, rfl⟩ := H
                                                        have p56 : 0 ≤ (x3_3 : Int) := of_decide_eq_true (by first | (with_reducible assumption) | assumption)
                                                        have q56 : x3_3 < (a0.size : Int) := of_decide_eq_true (by first | (with_reducible assumption) | assumption)
                                                        have hx56 := bt_at a0 x3_3
                                                        replace p56 := eq_true p56
                                                        replace q56 := eq_true q56
                                                        have p64 : 0 ≤ (x3_3 : Int) := of_decide_eq_true (by first | (with_reducible assumption) | assumption)
                                                        have q64 : x3_3 < (a0.size : Int) := of_decide_eq_true (by first | (with_reducible assumption) | assumption)
                                                        have hx64 := bt_at a0 x3_3
                                                        replace p64 := eq_true p64
                                                        replace q64 := eq_true q64
                                                        have hcv74 := KdB.own_string (P := Tryz.prog) Tryz.underlying28 Tryz.underlying5 Tryz.underlying9 (KdB.own_of_R HO_4.out)
                                                        have hcz75_0 : wr.cell? ⟨gb118, 0, none⟩ = some (.string x119000_3) := (blk_cell BK118.out 0).trans rfl
                                                        have hcz75_1 : wr.cell? ⟨gb118, 1, none⟩ = some (.string x119001_3) := (blk_cell BK118.out 1).trans rfl
                                                        have hcz75_2 : wr.cell? ⟨gb118, 2, none⟩ = some (.string x119002_3) := (blk_cell BK118.out 2).trans rfl
                                                        have hcz75_3 : wr.cell? ⟨gb118, 3, none⟩ = some (.bool x119003_3) := (blk_cell BK118.out 3).trans rfl
                                                        have hcz75_4 : wr.cell? ⟨gb118, 4, none⟩ = some (.bool x119004_3) := (blk_cell BK118.out 4).trans rfl
                                                        have hcz75_5 : wr.cell? ⟨gb118, 5, none⟩ = some (.bool x119005_3) := (blk_cell BK118.out 5).trans rfl
                                                        have hfz75_0 := blk_frozen BK118.out 0
                                                        have hfz75_1 := blk_frozen BK118.out 1
                                                        have hfz75_2 := blk_frozen BK118.out 2
                                                        have hfz75_3 := blk_frozen BK118.out 3
                                                        have hfz75_4 := blk_frozen BK118.out 4
                                                        have hfz75_5 := blk_frozen BK118.out 5
                                                        go_wp2_with (first | (go_at_call 12; (with_reducible refine (gjson_isDotPiperChar.calls k3 (a0.extract ((ji67) : Int).toNat a0.size) true _ A70.out).mono ?_); rintro e w' ⟨rfl, ⟨nd, rfl⟩⟩))
                                                        refine bodyPost_ret (results_cell_row rfl _ _ gb118 31 #[.string (strOfNums x4_3), .string x119001_3, .string (a0.extract ((ji67) : Int).toNat a0.size), .bool true, .bool x119004_3, .bool x119005_3] (0, 0) _ rfl (by (with_reducible repeat (first | refine blk_drewN ?_ _ | refine blk_drew ?_ | refine blk_alloc ?_ _)); refine blk_put (cs := #[.string (strOfNums x4_3), .string x119001_3, .string (a0.extract ((ji67) : Int).toNat a0.size), .bool x119003_3, .bool x119004_3, .bool x119005_3]) ?_ 3 _ rfl; (with_reducible repeat (first | refine blk_drewN ?_ _ | refine blk_drew ?_ | refine blk_alloc ?_ _)); refine blk_put (cs := #[.string (strOfNums x4_3), .string x119001_3, .string x119002_3, .bool x119003_3, .bool x119004_3, .bool x119005_3]) ?_ 2 _ rfl; (with_reducible repeat (first | refine blk_drewN ?_ _ | refine blk_drew ?_ | refine blk_alloc ?_ _)); refine blk_put (cs := #[.string x119000_3, .string x119001_3, .string x119002_3, .bool x119003_3, .bool x119004_3, .bool x119005_3]) ?_ 0 _ rfl; (with_reducible repeat (first | refine blk_drewN ?_ _ | refine blk_drew ?_ | refine blk_alloc ?_ _)); exact BK118.out) Tryz.underlying31 rfl (by kernel_rfl)) rfl ?_
                                                        exact ⟨by first | rfl | (simp [errW_none, errW_some] <;> rfl) | (simp only [← hji47, ← hji67]; first | rfl | (simp [errW_none, errW_some] <;> rfl)) | (simp [*, errW_none, errW_some] <;> rfl), by repeat (first | (with_reducible first | exact HB.out | apply below_alloc | apply pw_below_drewN | apply below_drew1 | refine below_set ?_ GE118.out) | exact HB.out)⟩
                                                      · replace c71 := Bool.eq_false_iff.mpr c71
                                                        subst c71
                                                        have H1 : (some (strOfNums x4_3, a0.extract ((ji67) : Int).toNat a0.size, x119002_3, x119003_3, x119004_3, true)) = some (r1, r2, r3, r4, r5, r6) := by rw [if_neg (show ¬ (false = true) by decide)] at H; exact H
                                                        clear H
                                                        have H := H1
                                                        clear H1
                                                        have c76b0 := eq_true (of_decide_eq_true (by first | (with_reducible assumption) | assumption) : 0 ≤ (ji67))
                                                        have c77b0 := eq_true (of_decide_eq_true (by first | (with_reducible assumption) | assumption) : (ji67) ≤ (a0.size : Int))
                                                        simp only [Option.some.injEq, Prod.mk.injEq] at H
                                                        obtain ⟨rfl, rfl, rfl, rfl, rfl, rfl⟩ := H
                                                        have p56 : 0 ≤ (x3_3 : Int) := of_decide_eq_true (by first | (with_reducible assumption) | assumption)
                                                        have q56 : x3_3 < (a0.size : Int) := of_decide_eq_true (by first | (with_reducible assumption) | assumption)
                                                        have hx56 := bt_at a0 x3_3
                                                        replace p56 := eq_true p56
                                                        replace q56 := eq_true q56
                                                        have p64 : 0 ≤ (x3_3 : Int) := of_decide_eq_true (by first | (with_reducible assumption) | assumption)
                                                        have q64 : x3_3 < (a0.size : Int) := of_decide_eq_true (by first | (with_reducible assumption) | assumption)
                                                        have hx64 := bt_at a0 x3_3
                                                        replace p64 := eq_true p64
                                                        replace q64 := eq_true q64
                                                        have hcv78 := KdB.own_string (P := Tryz.prog) Tryz.underlying28 Tryz.underlying5 Tryz.underlying9 (KdB.own_of_R HO_4.out)
                                                        have hcz79_0 : wr.cell? ⟨gb118, 0, none⟩ = some (.string x119000_3) := (blk_cell BK118.out 0).trans rfl
                                                        have hcz79_1 : wr.cell? ⟨gb118, 1, none⟩ = some (.string x119001_3) := (blk_cell BK118.out 1).trans rfl
                                                        have hcz79_2 : wr.cell? ⟨gb118, 2, none⟩ = some (.string x119002_3) := (blk_cell BK118.out 2).trans rfl
                                                        have hcz79_3 : wr.cell? ⟨gb118, 3, none⟩ = some (.bool x119003_3) := (blk_cell BK118.out 3).trans rfl
                                                        have hcz79_4 : wr.cell? ⟨gb118, 4, none⟩ = some (.bool x119004_3) := (blk_cell BK118.out 4).trans rfl
                                                        have hcz79_5 : wr.cell? ⟨gb118, 5, none⟩ = some (.bool x119005_3) := (blk_cell BK118.out 5).trans rfl
                                                        have hfz79_0 := blk_frozen BK118.out 0
                                                        have hfz79_1 := blk_frozen BK118.out 1
                                                        have hfz79_2 := blk_frozen BK118.out 2
                                                        have hfz79_3 := blk_frozen BK118.out 3
                                                        have hfz79_4 := blk_frozen BK118.out 4
                                                        have hfz79_5 := blk_frozen BK118.out 5
                                                        go_wp2_with (first | (go_at_call 12; (with_reducible refine (gjson_isDotPiperChar.calls k3 (a0.extract ((ji67) : Int).toNat a0.size) false _ A70.out).mono ?_); rintro e w' ⟨rfl, ⟨nd, rfl⟩⟩))
                                                        refine bodyPost_ret (results_cell_row rfl _ _ gb118 31 #[.string (strOfNums x4_3), .string (a0.extract ((ji67) : Int).toNat a0.size), .string x119002_3, .bool x119003_3, .bool x119004_3, .bool true] (0, 0) _ rfl (by (with_reducible repeat (first | refine blk_drewN ?_ _ | refine blk_drew ?_ | refine blk_alloc ?_ _)); refine blk_put (cs := #[.string (strOfNums x4_3), .string (a0.extract ((ji67) : Int).toNat a0.size), .string x119002_3, .bool x119003_3, .bool x119004_3, .bool x119005_3]) ?_ 5 _ rfl; (with_reducible repeat (first | refine blk_drewN ?_ _ | refine blk_drew ?_ | refine blk_alloc ?_ _)); refine blk_put (cs := #[.string (strOfNums x4_3), .string x119001_3, .string x119002_3, .bool x119003_3, .bool x119004_3, .bool x119005_3]) ?_ 1 _ rfl; (with_reducible repeat (first | refine blk_drewN ?_ _ | refine blk_drew ?_ | refine blk_alloc ?_ _)); refine blk_put (cs := #[.string x119000_3, .string x119001_3, .string x119002_3, .bool x119003_3, .bool x119004_3, .bool x119005_3]) ?_ 0 _ rfl; (with_reducible repeat (first | refine blk_drewN ?_ _ | refine blk_drew ?_ | refine blk_alloc ?_ _)); exact BK118.out) Tryz.underlying31 rfl (by kernel_rfl)) rfl ?_
                                                        exact ⟨by first | rfl | (simp [errW_none, errW_some] <;> rfl) | (simp only [← hji47, ← hji67]; first | rfl | (simp [errW_none, errW_some] <;> rfl)) | (simp [*, errW_none, errW_some] <;> rfl), by repeat (first | (with_reducible first | exact HB.out | apply below_alloc | apply pw_below_drewN | apply below_drew1 | refine below_set ?_ GE118.out) | exact HB.out)⟩
                                                    · rw [if_neg c69] at H
                                                      exact absurd H (by simp)
                                                  · rw [if_neg c68] at H
                                                    exact absurd H (by simp)
                                                · rw [if_neg c66] at H
                                                  have c66b0 : decide (x3_3 < (wrap64 ((a0.size : Int) - 1))) = false := decide_eq_false c66
                                                  clear c66
                                                  obtain ⟨ji80, hji80⟩ : ∃ j_ : Int, (wrap64 (x3_3 + 1)) = j_ := ⟨_, rfl⟩
                                                  replace H : (if 0 ≤ (ji80) then (if (ji80) ≤ (a0.size : Int) then (some (strOfNums x4_3, a0.extract ((ji80) : Int).toNat a0.size, x119002_3, x119003_3, x119004_3, true)) else (none)) else (none)) = some (r1, r2, r3, r4, r5, r6) := by first | (rw [hji80] at H; exact H) | (simp only [hji80] at H ⊢; exact H)
                                                  have hji80w : (IntKind.i64.wrap (x3_3 + 1)) = ji80 := (i64_w _).trans hji80
                                                  by_cases c81 : 0 ≤ (ji80)
                                                  · rw [if_pos c81] at H
                                                    have c81b0 := eq_true c81
                                                    have c81b1 : decide (0 ≤ (ji80)) = true := decide_eq_true c81
                                                    clear c81
                                                    by_cases c82 : (ji80) ≤ (a0.size : Int)
                                                    · rw [if_pos c82] at H
                                                      have c82b0 := eq_true c82
                                                      have c82b1 : decide ((ji80) ≤ (a0.size : Int)) = true := decide_eq_true c82
                                                      clear c82
                                                      simp only [Option.some.injEq, Prod.mk.injEq] at H
                                                      obtain ⟨rfl, rfl, rfl, rfl, rfl, rfl⟩ := H
                                                      have p56 : 0 ≤ (x3_3 : Int) := of_decide_eq_true (by first | (with_reducible assumption) | assumption)
                                                      have q56 : x3_3 < (a0.size : Int) := of_decide_eq_true (by first | (with_reducible assumption) | assumption)
                                                      have hx56 := bt_at a0 x3_3
                                                      replace p56 := eq_true p56
                                                      replace q56 := eq_true q56
                                                      have p64 : 0 ≤ (x3_3 : Int) := of_decide_eq_true (by first | (with_reducible assumption) | assumption)
                                                      have q64 : x3_3 < (a0.size : Int) := of_decide_eq_true (by first | (with_reducible assumption) | assumption)
                                                      have hx64 := bt_at a0 x3_3
                                                      replace p64 := eq_true p64
                                                      replace q64 := eq_true q64
                                                      have hcv83 := KdB.own_string (P := Tryz.prog) Tryz.underlying28 Tryz.underlying5 Tryz.underlying9 (KdB.own_of_R HO_4.out)
                                                      have hcz84_0 : wr.cell? ⟨gb118, 0, none⟩ = some (.string x119000_3) := (blk_cell BK118.out 0).trans rfl
                                                      have hcz84_1 : wr.cell? ⟨gb118, 1, none⟩ = some (.string x119001_3) := (blk_cell BK118.out 1).trans rfl
                                                      have hcz84_2 : wr.cell? ⟨gb118, 2, none⟩ = some (.string x119002_3) := (blk_cell BK118.out 2).trans rfl
                                                      have hcz84_3 : wr.cell? ⟨gb118, 3, none⟩ = some (.bool x119003_3) := (blk_cell BK118.out 3).trans rfl
                                                      have hcz84_4 : wr.cell? ⟨gb118, 4, none⟩ = some (.bool x119004_3) := (blk_cell BK118.out 4).trans rfl
                                                      have hcz84_5 : wr.cell? ⟨gb118, 5, none⟩ = some (.bool x119005_3) := (blk_cell BK118.out 5).trans rfl
                                                      have hfz84_0 := blk_frozen BK118.out 0
                                                      have hfz84_1 := blk_frozen BK118.out 1
                                                      have hfz84_2 := blk_frozen BK118.out 2
                                                      have hfz84_3 := blk_frozen BK118.out 3
                                                      have hfz84_4 := blk_frozen BK118.out 4
                                                      have hfz84_5 := blk_frozen BK118.out 5
                                                      go_wp2
                                                      refine bodyPost_ret (results_cell_row rfl _ _ gb118 31 #[.string (strOfNums x4_3), .string (a0.extract ((ji80) : Int).toNat a0.size), .string x119002_3, .bool x119003_3, .bool x119004_3, .bool true] (0, 0) _ rfl (by (with_reducible repeat (first | refine blk_drewN ?_ _ | refine blk_drew ?_ | refine blk_alloc ?_ _)); refine blk_put (cs := #[.string (strOfNums x4_3), .string (a0.extract ((ji80) : Int).toNat a0.size), .string x119002_3, .bool x119003_3, .bool x119004_3, .bool x119005_3]) ?_ 5 _ rfl; (with_reducible repeat (first | refine blk_drewN ?_ _ | refine blk_drew ?_ | refine blk_alloc ?_ _)); refine blk_put (cs := #[.string (strOfNums x4_3), .string x119001_3, .string x119002_3, .bool x119003_3, .bool x119004_3, .bool x119005_3]) ?_ 1 _ rfl; (with_reducible repeat (first | refine blk_drewN ?_ _ | refine blk_drew ?_ | refine blk_alloc ?_ _)); refine blk_put (cs := #[.string x119000_3, .string x119001_3, .string x119002_3, .bool x119003_3, .bool x119004_3, .bool x119005_3]) ?_ 0 _ rfl; (with_reducible repeat (first | refine blk_drewN ?_ _ | refine blk_drew ?_ | refine blk_alloc ?_ _)); exact BK118.out) Tryz.underlying31 rfl (by kernel_rfl)) rfl ?_
                                                      exact ⟨by first | rfl | (simp [errW_none, errW_some] <;> rfl) | (simp only [← hji47, ← hji80]; first | rfl | (simp [errW_none, errW_some] <;> rfl)) | (simp [*, errW_none, errW_some] <;> rfl), by repeat (first | (with_reducible first | exact HB.out | apply below_alloc | apply pw_below_drewN | apply below_drew1 | refine below_set ?_ GE118.out) | exact HB.out)⟩
                                                    · rw [if_neg c82] at H
                                                      exact absurd H (by simp)
                                                  · rw [if_neg c81] at H
                                                    exact absurd H (by simp)
                                              · rw [if_neg c65] at H
                                                have c65b0 : ((bt a0 x3_3) == 46) = false := beq_eq_false_iff_ne.mpr c65
                                                have c65b1 : ((bt a0 x3_3) != 46) = true := bne_iff_ne.mpr c65
                                                by_cases c86 : (bt a0 x3_3) = 124
                                                · rw [if_pos c86] at H
                                                  have c86b0 : ((bt a0 x3_3) == 124) = true := beq_iff_eq.mpr c86
                                                  have c86b1 : ((bt a0 x3_3) != 124) = false := bne_eq_false_iff_eq.mpr c86
                                                  clear c86
                                                  obtain ⟨ji87, hji87⟩ : ∃ j_ : Int, (wrap64 (x3_3 + 1)) = j_ := ⟨_, rfl⟩
                                                  replace H : (if 0 ≤ (ji87) then (if (ji87) ≤ (a0.size : Int) then (some (strOfNums x4_3, x119001_3, a0.extract ((ji87) : Int).toNat a0.size, true, x119004_3, x119005_3)) else (none)) else (none)) = some (r1, r2, r3, r4, r5, r6) := by first | (rw [hji87] at H; exact H) | (simp only [hji87] at H ⊢; exact H)
                                                  have hji87w : (IntKind.i64.wrap (x3_3 + 1)) = ji87 := (i64_w _).trans hji87
                                                  by_cases c88 : 0 ≤ (ji87)
                                                  · rw [if_pos c88] at H
                                                    have c88b0 := eq_true c88
                                                    have c88b1 : decide (0 ≤ (ji87)) = true := decide_eq_true c88
                                                    clear c88
                                                    by_cases c89 : (ji87) ≤ (a0.size : Int)
                                                    · rw [if_pos c89] at H
                                                      have c89b0 := eq_true c89
                                                      have c89b1 : decide ((ji87) ≤ (a0.size : Int)) = true := decide_eq_true c89
                                                      clear c89
                                                      simp only [Option.some.injEq, Prod.mk.injEq] at H
                                                      obtain ⟨rfl, rfl, rfl, rfl, rfl, rfl⟩ := H
                                                      have p56 : 0 ≤ (x3_3 : Int) := of_decide_eq_true (by first | (with_reducible assumption) | assumption)
                                                      have q56 : x3_3 < (a0.size : Int) := of_decide_eq_true (by first | (with_reducible assumption) | assumption)
                                                      have hx56 := bt_at a0 x3_3
                                                      replace p56 := eq_true p56
                                                      replace q56 := eq_true q56
                                                      have p64 : 0 ≤ (x3_3 : Int) := of_decide_eq_true (by first | (with_reducible assumption) | assumption)
                                                      have q64 : x3_3 < (a0.size : Int) := of_decide_eq_true (by first | (with_reducible assumption) | assumption)
                                                      have hx64 := bt_at a0 x3_3
                                                      replace p64 := eq_true p64
                                                      replace q64 := eq_true q64
                                                      have p85 : 0 ≤ (x3_3 : Int) := of_decide_eq_true (by first | (with_reducible assumption) | assumption)
                                                      have q85 : x3_3 < (a0.size : Int) := of_decide_eq_true (by first | (with_reducible assumption) | assumption)
                                                      have hx85 := bt_at a0 x3_3
                                                      replace p85 := eq_true p85
                                                      replace q85 := eq_true q85
                                                      have hcv90 := KdB.own_string (P := Tryz.prog) Tryz.underlying28 Tryz.underlying5 Tryz.underlying9 (KdB.own_of_R HO_4.out)
                                                      have hcz91_0 : wr.cell? ⟨gb118, 0, none⟩ = some (.string x119000_3) := (blk_cell BK118.out 0).trans rfl
                                                      have hcz91_1 : wr.cell? ⟨gb118, 1, none⟩ = some (.string x119001_3) := (blk_cell BK118.out 1).trans rfl
                                                      have hcz91_2 : wr.cell? ⟨gb118, 2, none⟩ = some (.string x119002_3) := (blk_cell BK118.out 2).trans rfl
                                                      have hcz91_3 : wr.cell? ⟨gb118, 3, none⟩ = some (.bool x119003_3) := (blk_cell BK118.out 3).trans rfl
                                                      have hcz91_4 : wr.cell? ⟨gb118, 4, none⟩ = some (.bool x119004_3) := (blk_cell BK118.out 4).trans rfl
                                                      have hcz91_5 : wr.cell? ⟨gb118, 5, none⟩ = some (.bool x119005_3) := (blk_cell BK118.out 5).trans rfl
                                                      have hfz91_0 := blk_frozen BK118.out 0
                                                      have hfz91_1 := blk_frozen BK118.out 1
                                                      have hfz91_2 := blk_frozen BK118.out 2
                                                      have hfz91_3 := blk_frozen BK118.out 3
                                                      have hfz91_4 := blk_frozen BK118.out 4
                                                      have hfz91_5 := blk_frozen BK118.out 5
                                                      go_wp2
                                                      refine bodyPost_ret (results_cell_row rfl _ _ gb118 31 #[.string (strOfNums x4_3), .string x119001_3, .string (a0.extract ((ji87) : Int).toNat a0.size), .bool true, .bool x119004_3, .bool x119005_3] (0, 0) _ rfl (by (with_reducible repeat (first | refine blk_drewN ?_ _ | refine blk_drew ?_ | refine blk_alloc ?_ _)); refine blk_put (cs := #[.string (strOfNums x4_3), .string x119001_3, .string (a0.extract ((ji87) : Int).toNat a0.size), .bool x119003_3, .bool x119004_3, .bool x119005_3]) ?_ 3 _ rfl; (with_reducible repeat (first | refine blk_drewN ?_ _ | refine blk_drew ?_ | refine blk_alloc ?_ _)); refine blk_put (cs := #[.string (strOfNums x4_3), .string x119001_3, .string x119002_3, .bool x119003_3, .bool x119004_3, .bool x119005_3]) ?_ 2 _ rfl; (with_reducible repeat (first | refine blk_drewN ?_ _ | refine blk_drew ?_ | refine blk_alloc ?_ _)); refine blk_put (cs := #[.string x119000_3, .string x119001_3, .string x119002_3, .bool x119003_3, .bool x119004_3, .bool x119005_3]) ?_ 0 _ rfl; (with_reducible repeat (first | refine blk_drewN ?_ _ | refine blk_drew ?_ | refine blk_alloc ?_ _)); exact BK118.out) Tryz.underlying31 rfl (by kernel_rfl)) rfl ?_
                                                      exact ⟨by first | rfl | (simp [errW_none, errW_some] <;> rfl) | (simp only [← hji47, ← hji87]; first | rfl | (simp [errW_none, errW_some] <;> rfl)) | (simp [*, errW_none, errW_some] <;> rfl), by repeat (first | (with_reducible first | exact HB.out | apply below_alloc | apply pw_below_drewN | apply below_drew1 | refine below_set ?_ GE118.out) | exact HB.out)⟩
                                                    · rw [if_neg c89] at H
                                                      exact absurd H (by simp)
                                                  · rw [if_neg c88] at H
                                                    exact absurd H (by simp)
                                                · rw [if_neg c86] at H
                                                  have c86b0 : ((bt a0 x3_3) == 124) = false := beq_eq_false_iff_ne.mpr c86
                                                  have c86b1 : ((bt a0 x3_3) != 124) = true := bne_iff_ne.mpr c86
                                                  by_cases c93 : (bt a0 x3_3) = 42
                                                  · rw [if_pos c93] at H
                                                    have c93b0 : ((bt a0 x3_3) == 42) = true := beq_iff_eq.mpr c93
                                                    have c93b1 : ((bt a0 x3_3) != 42) = false := bne_eq_false_iff_eq.mpr c93
                                                    clear c93
                                                    by_cases c95 : x4_3.length < 140737488355328
                                                    · rw [if_pos c95] at H
                                                      have LMc95 := Aside0.mk c95
                                                      clear c95
                                                      obtain ⟨y130, hy130⟩ : ∃ y_ : List Int, y_ = (x4_3 ++ [bt a0 x3_3]) := ⟨_, rfl⟩
                                                      replace H : (gjson_parseObjectPath.l1 k3 a0 (wrap64 (x3_3 + 1)) y130 x119000_3 x119001_3 x119002_3 x119003_3 true x119005_3) = some (r1, r2, r3, r4, r5, r6) := by first | (rw [hy130]; with_reducible exact H) | (have H2_ := (Option.bind_some _ _).symm.trans H; rw [hy130]; with_reducible exact H2_) | (have H2_ := (Option.bind_some _ _).symm.trans H; with_reducible exact H2_) | with_reducible exact H | (rw [hy130]; exact H) | exact H
                                                      have Ny130 := Aside0.mk hy130
                                                      clear hy130
                                                      have H' := Aside0.mk H
                                                      clear H
                                                      have p56 : 0 ≤ (x3_3 : Int) := of_decide_eq_true (by first | (with_reducible assumption) | assumption)
                                                      have q56 : x3_3 < (a0.size : Int) := of_decide_eq_true (by first | (with_reducible assumption) | assumption)
                                                      have hx56 := bt_at a0 x3_3
                                                      replace p56 := eq_true p56
                                                      replace q56 := eq_true q56
                                                      have p64 : 0 ≤ (x3_3 : Int) := of_decide_eq_true (by first | (with_reducible assumption) | assumption)
                                                      have q64 : x3_3 < (a0.size : Int) := of_decide_eq_true (by first | (with_reducible assumption) | assumption)
                                                      have hx64 := bt_at a0 x3_3
                                                      replace p64 := eq_true p64
                                                      replace q64 := eq_true q64
                                                      have p85 : 0 ≤ (x3_3 : Int) := of_decide_eq_true (by first | (with_reducible assumption) | assumption)
                                                      have q85 : x3_3 < (a0.size : Int) := of_decide_eq_true (by first | (with_reducible assumption) | assumption)
                                                      have hx85 := bt_at a0 x3_3
                                                      replace p85 := eq_true p85
                                                      replace q85 := eq_true q85
                                                      have p92 : 0 ≤ (x3_3 : Int) := of_decide_eq_true (by first | (with_reducible assumption) | assumption)
                                                      have q92 : x3_3 < (a0.size : Int) := of_decide_eq_true (by first | (with_reducible assumption) | assumption)
                                                      have hx92 := bt_at a0 x3_3
                                                      replace p92 := eq_true p92
                                                      replace q92 := eq_true q92
                                                      have hcz96_0 : wr.cell? ⟨gb118, 0, none⟩ = some (.string x119000_3) := (blk_cell BK118.out 0).trans rfl
                                                      have hcz96_1 : wr.cell? ⟨gb118, 1, none⟩ = some (.string x119001_3) := (blk_cell BK118.out 1).trans rfl
                                                      have hcz96_2 : wr.cell? ⟨gb118, 2, none⟩ = some (.string x119002_3) := (blk_cell BK118.out 2).trans rfl
                                                      have hcz96_3 : wr.cell? ⟨gb118, 3, none⟩ = some (.bool x119003_3) := (blk_cell BK118.out 3).trans rfl
                                                      have hcz96_4 : wr.cell? ⟨gb118, 4, none⟩ = some (.bool x119004_3) := (blk_cell BK118.out 4).trans rfl
                                                      have hcz96_5 : wr.cell? ⟨gb118, 5, none⟩ = some (.bool x119005_3) := (blk_cell BK118.out 5).trans rfl
                                                      have hfz96_0 := blk_frozen BK118.out 0
                                                      have hfz96_1 := blk_frozen BK118.out 1
                                                      have hfz96_2 := blk_frozen BK118.out 2
                                                      have hfz96_3 := blk_frozen BK118.out 3
                                                      have hfz96_4 := blk_frozen BK118.out 4
                                                      have hfz96_5 := blk_frozen BK118.out 5
                                                      have p94 : 0 ≤ (x3_3 : Int) := of_decide_eq_true (by first | (with_reducible assumption) | assumption)
                                                      have q94 : x3_3 < (a0.size : Int) := of_decide_eq_true (by first | (with_reducible assumption) | assumption)
                                                      have hx94 := bt_at a0 x3_3
                                                      replace p94 := eq_true p94
                                                      replace q94 := eq_true q94
                                                      go_wp2_with (first | ((with_reducible refine gate_builtin (b := .append) (xs := #[.tmp 167, .tmp 171]) rfl ?_); at_builtin; refine KdB.R_append (Kd.int .u8) (w0 := w) w.heap.size rfl (.tmp 167) (.tmp 171) 28 5 (.int .u8 0) 1 rfl Tryz.underlying28 info5 rfl (by decide) (by omega) u4 x4_3 (bt a0 x3_3) [.int .u8 (bt a0 x3_3)] (fun _ => True) (fun _ => False) rfl (by first | (go_simp; done) | (go_simp; rfl)) ?aP (fun _ hk => hk.elim) ?aF ?aO ?aB ?aS ?aL ?_; (case aP => exact rfl); (case aB => exact (by repeat (first | (with_reducible first | exact HB.out | apply below_alloc | apply pw_below_drewN | apply below_drew1 | refine below_set ?_ GE118.out) | exact HB.out))); (case aF => exact (fun _ _ => trivial)); (case aO => exact (by (with_reducible repeat (first | apply KdB.R_alloc | apply KdB.R_drewN | apply KdB.R_drew)); exact KdB.R_mono (KdB.R_far (p := ⟨gb118, 4, none⟩) (KdB.R_types HO_4.out BK118.out (by decide)) (fun _ hk => hk.2) (.bool true)) (fun _ hk => trivial))); (case aS => exact (below_size (by repeat (first | (with_reducible first | exact HB.out | apply below_alloc | apply pw_below_drewN | apply below_drew1 | refine below_set ?_ GE118.out) | exact HB.out)))); (case aL => have := LMc95.out; omega); intro v131 w97 ho hb hg hat; rw [← Ny130.out] at ho; have n0_ := Aside0.mk (blk_grown (g := gb118) (o := .cells #[.string x119000_3, .string x119001_3, .string x119002_3, .bool x119003_3, .bool true, .bool x119005_3] 31 (0, 0)) (by (with_reducible repeat (first | refine blk_drewN ?_ _ | refine blk_drew ?_ | refine blk_alloc ?_ _)); refine blk_put (cs := #[.string x119000_3, .string x119001_3, .string x119002_3, .bool x119003_3, .bool x119004_3, .bool x119005_3]) ?_ 4 _ rfl; (with_reducible repeat (first | refine blk_drewN ?_ _ | refine blk_drew ?_ | refine blk_alloc ?_ _)); exact BK118.out) hg (KdB.R_ne HO_4.out BK118.out (by decide))); have n1_ := Aside0.mk (hb); have n2_ := Aside0.mk (ho); clear BK118; clear HB; clear HO_4; have BK118 := n0_; have HB := n1_; have HO132 := n2_; clear n0_ n1_ n2_; clear ho hb hg hat))
                                                      go_roundg k3
                                                      case measure => have := HK1.out; have := HJ32.out; have := HK3.out; omega
                                                      case rel => exact ⟨(wrap64 (x3_3 + 1)), (y130), (x119000_3), (x119001_3), (x119002_3), (x119003_3), (true), (x119005_3), (by first | rfl | (simp; done) | (simp [*]; done)), H', ⟨by have := HK1.out; have := HJ32.out; have := HK3.out; omega⟩, ⟨by (with_reducible repeat (first | apply KdB.R_alloc | apply KdB.R_drewN | apply KdB.R_drew)); exact HO132.out⟩, ⟨by (with_reducible repeat (first | refine blk_drewN ?_ _ | refine blk_drew ?_ | refine blk_alloc ?_ _)); exact BK118.out⟩, ⟨by repeat (first | (with_reducible first | exact HB.out | apply below_alloc | apply pw_below_drewN | apply below_drew1 | refine below_set ?_ GE118.out) | exact HB.out)⟩⟩
                                                    · rw [if_neg c95] at H
                                                      exact absurd H (by simp)
                                                  · rw [if_neg c93] at H
                                                    have c93b0 : ((bt a0 x3_3) == 42) = false := beq_eq_false_iff_ne.mpr c93
                                                    have c93b1 : ((bt a0 x3_3) != 42) = true := bne_iff_ne.mpr c93
                                                    by_cases c99 : (bt a0 x3_3) = 63
                                                    · rw [if_pos c99] at H
                                                      have c99b0 : ((bt a0 x3_3) == 63) = true := beq_iff_eq.mpr c99
                                                      have c99b1 : ((bt a0 x3_3) != 63) = false := bne_eq_false_iff_eq.mpr c99
                                                      clear c99
                                                      by_cases c101 : x4_3.length < 140737488355328
                                                      · rw [if_pos c101] at H
                                                        have LMc101 := Aside0.mk c101
                                                        clear c101
                                                        obtain ⟨y133, hy133⟩ : ∃ y_ : List Int, y_ = (x4_3 ++ [bt a0 x3_3]) := ⟨_, rfl⟩
                                                        replace H : (gjson_parseObjectPath.l1 k3 a0 (wrap64 (x3_3 + 1)) y133 x119000_3 x119001_3 x119002_3 x119003_3 true x119005_3) = some (r1, r2, r3, r4, r5, r6) := by first | (rw [hy133]; with_reducible exact H) | (have H2_ := (Option.bind_some _ _).symm.trans H; rw [hy133]; with_reducible exact H2_) | (have H2_ := (Option.bind_some _ _).symm.trans H; with_reducible exact H2_) | with_reducible exact H | (rw [hy133]; exact H) | exact H
                                                        have Ny133 := Aside0.mk hy133
                                                        clear hy133
                                                        have H' := Aside0.mk H
                                                        clear H
                                                        have p56 : 0 ≤ (x3_3 : Int) := of_decide_eq_true (by first | (with_reducible assumption) | assumption)
                                                        have q56 : x3_3 < (a0.size : Int) := of_decide_eq_true (by first | (with_reducible assumption) | assumption)
                                                        have hx56 := bt_at a0 x3_3
                                                        replace p56 := eq_true p56
                                                        replace q56 := eq_true q56
                                                        have p64 : 0 ≤ (x3_3 : Int) := of_decide_eq_true (by first | (with_reducible assumption) | assumption)
                                                        have q64 : x3_3 < (a0.size : Int) := of_decide_eq_true (by first | (with_reducible assumption) | assumption)
                                                        have hx64 := bt_at a0 x3_3
                                                        replace p64 := eq_true p64
                                                        replace q64 := eq_true q64
                                                        have p85 : 0 ≤ (x3_3 : Int) := of_decide_eq_true (by first | (with_reducible assumption) | assumption)
                                                        have q85 : x3_3 < (a0.size : Int) := of_decide_eq_true (by first | (with_reducible assumption) | assumption)
                                                        have hx85 := bt_at a0 x3_3
                                                        replace p85 := eq_true p85
                                                        replace q85 := eq_true q85
                                                        have p92 : 0 ≤ (x3_3 : Int) := of_decide_eq_true (by first | (with_reducible assumption) | assumption)
                                                        have q92 : x3_3 < (a0.size : Int) := of_decide_eq_true (by first | (with_reducible assumption) | assumption)
                                                        have hx92 := bt_at a0 x3_3
                                                        replace p92 := eq_true p92
                                                        replace q92 := eq_true q92
                                                        have p98 : 0 ≤ (x3_3 : Int) := of_decide_eq_true (by first | (with_reducible assumption) | assumption)
                                                        have q98 : x3_3 < (a0.size : Int) := of_decide_eq_true (by first | (with_reducible assumption) | assumption)
                                                        have hx98 := bt_at a0 x3_3
                                                        replace p98 := eq_true p98
                                                        replace q98 := eq_true q98
                                                        have hcz102_0 : wr.cell? ⟨gb118, 0, none⟩ = some (.string x119000_3) := (blk_cell BK118.out 0).trans rfl
                                                        have hcz102_1 : wr.cell? ⟨gb118, 1, none⟩ = some (.string x119001_3) := (blk_cell BK118.out 1).trans rfl
                                                        have hcz102_2 : wr.cell? ⟨gb118, 2, none⟩ = some (.string x119002_3) := (blk_cell BK118.out 2).trans rfl
                                                        have hcz102_3 : wr.cell? ⟨gb118, 3, none⟩ = some (.bool x119003_3) := (blk_cell BK118.out 3).trans rfl
                                                        have hcz102_4 : wr.cell? ⟨gb118, 4, none⟩ = some (.bool x119004_3) := (blk_cell BK118.out 4).trans rfl
                                                        have hcz102_5 : wr.cell? ⟨gb118, 5, none⟩ = some (.bool x119005_3) := (blk_cell BK118.out 5).trans rfl
                                                        have hfz102_0 := blk_frozen BK118.out 0
                                                        have hfz102_1 := blk_frozen BK118.out 1
                                                        have hfz102_2 := blk_frozen BK118.out 2
                                                        have hfz102_3 := blk_frozen BK118.out 3
                                                        have hfz102_4 := blk_frozen BK118.out 4
                                                        have hfz102_5 := blk_frozen BK118.out 5
                                                        have p100 : 0 ≤ (x3_3 : Int) := of_decide_eq_true (by first | (with_reducible assumption) | assumption)
                                                        have q100 : x3_3 < (a0.size : Int) := of_decide_eq_true (by first | (with_reducible assumption) | assumption)
                                                        have hx100 := bt_at a0 x3_3
                                                        replace p100 := eq_true p100
                                                        replace q100 := eq_true q100
                                                        go_wp2_with (first | ((with_reducible refine gate_builtin (b := .append) (xs := #[.tmp 167, .tmp 171]) rfl ?_); at_builtin; refine KdB.R_append (Kd.int .u8) (w0 := w) w.heap.size rfl (.tmp 167) (.tmp 171) 28 5 (.int .u8 0) 1 rfl Tryz.underlying28 info5 rfl (by decide) (by omega) u4 x4_3 (bt a0 x3_3) [.int .u8 (bt a0 x3_3)] (fun _ => True) (fun _ => False) rfl (by first | (go_simp; done) | (go_simp; rfl)) ?aP (fun _ hk => hk.elim) ?aF ?aO ?aB ?aS ?aL ?_; (case aP => exact rfl); (case aB => exact (by repeat (first | (with_reducible first | exact HB.out | apply below_alloc | apply pw_below_drewN | apply below_drew1 | refine below_set ?_ GE118.out) | exact HB.out))); (case aF => exact (fun _ _ => trivial)); (case aO => exact (by (with_reducible repeat (first | apply KdB.R_alloc | apply KdB.R_drewN | apply KdB.R_drew)); exact KdB.R_mono (KdB.R_far (p := ⟨gb118, 4, none⟩) (KdB.R_types HO_4.out BK118.out (by decide)) (fun _ hk => hk.2) (.bool true)) (fun _ hk => trivial))); (case aS => exact (below_size (by repeat (first | (with_reducible first | exact HB.out | apply below_alloc | apply pw_below_drewN | apply below_drew1 | refine below_set ?_ GE118.out) | exact HB.out)))); (case aL => have := LMc101.out; omega); intro v134 w103 ho hb hg hat; rw [← Ny133.out] at ho; have n0_ := Aside0.mk (blk_grown (g := gb118) (o := .cells #[.string x119000_3, .string x119001_3, .string x119002_3, .bool x119003_3, .bool true, .bool x119005_3] 31 (0, 0)) (by (with_reducible repeat (first | refine blk_drewN ?_ _ | refine blk_drew ?_ | refine blk_alloc ?_ _)); refine blk_put (cs := #[.string x119000_3, .string x119001_3, .string x119002_3, .bool x119003_3, .bool x119004_3, .bool x119005_3]) ?_ 4 _ rfl; (with_reducible repeat (first | refine blk_drewN ?_ _ | refine blk_drew ?_ | refine blk_alloc ?_ _)); exact BK118.out) hg (KdB.R_ne HO_4.out BK118.out (by decide))); have n1_ := Aside0.mk (hb); have n2_ := Aside0.mk (ho); clear BK118; clear HB; clear HO_4; have BK118 := n0_; have HB := n1_; have HO135 := n2_; clear n0_ n1_ n2_; clear ho hb hg hat))
                                                        go_roundg k3
                                                        case measure => have := HK1.out; have := HJ32.out; have := HK3.out; omega
                                                        case rel => exact ⟨(wrap64 (x3_3 + 1)), (y133), (x119000_3), (x119001_3), (x119002_3), (x119003_3), (true), (x119005_3), (by first | rfl | (simp; done) | (simp [*]; done)), H', ⟨by have := HK1.out; have := HJ32.out; have := HK3.out; omega⟩, ⟨by (with_reducible repeat (first | apply KdB.R_alloc | apply KdB.R_drewN | apply KdB.R_drew)); exact HO135.out⟩, ⟨by (with_reducible repeat (first | refine blk_drewN ?_ _ | refine blk_drew ?_ | refine blk_alloc ?_ _)); exact BK118.out⟩, ⟨by repeat (first | (with_reducible first | exact HB.out | apply below_alloc | apply pw_below_drewN | apply below_drew1 | refine below_set ?_ GE118.out) | exact HB.out)⟩⟩
                                                      · rw [if_neg c101] at H
                                                        exact absurd H (by simp)
                                                    · rw [if_neg c99] at H
                                                      have c99b0 : ((bt a0 x3_3) == 63) = false := beq_eq_false_iff_ne.mpr c99
                                                      have c99b1 : ((bt a0 x3_3) != 63) = true := bne_iff_ne.mpr c99
                                                      by_cases c105 : x4_3.length < 140737488355328
                                                      · rw [if_pos c105] at H
                                                        have LMc105 := Aside0.mk c105
                                                        clear c105
                                                        obtain ⟨y136, hy136⟩ : ∃ y_ : List Int, y_ = (x4_3 ++ [bt a0 x3_3]) := ⟨_, rfl⟩
                                                        replace H : (gjson_parseObjectPath.l1 k3 a0 (wrap64 (x3_3 + 1)) y136 x119000_3 x119001_3 x119002_3 x119003_3 x119004_3 x119005_3) = some (r1, r2, r3, r4, r5, r6) := by first | (rw [hy136]; with_reducible exact H) | (have H2_ := (Option.bind_some _ _).symm.trans H; rw [hy136]; with_reducible exact H2_) | (have H2_ := (Option.bind_some _ _).symm.trans H; with_reducible exact H2_) | with_reducible exact H | (rw [hy136]; exact H) | exact H
                                                        have Ny136 := Aside0.mk hy136
                                                        clear hy136
                                                        have H' := Aside0.mk H
                                                        clear H
                                                        have p56 : 0 ≤ (x3_3 : Int) := of_decide_eq_true (by first | (with_reducible assumption) | assumption)
                                                        have q56 : x3_3 < (a0.size : Int) := of_decide_eq_true (by first | (with_reducible assumption) | assumption)
                                                        have hx56 := bt_at a0 x3_3
                                                        replace p56 := eq_true p56
                                                        replace q56 := eq_true q56
                                                        have p64 : 0 ≤ (x3_3 : Int) := of_decide_eq_true (by first | (with_reducible assumption) | assumption)
                                                        have q64 : x3_3 < (a0.size : Int) := of_decide_eq_true (by first | (with_reducible assumption) | assumption)
                                                        have hx64 := bt_at a0 x3_3
                                                        replace p64 := eq_true p64
                                                        replace q64 := eq_true q64
                                                        have p85 : 0 ≤ (x3_3 : Int) := of_decide_eq_true (by first | (with_reducible assumption) | assumption)
                                                        have q85 : x3_3 < (a0.size : Int) := of_decide_eq_true (by first | (with_reducible assumption) | assumption)
                                                        have hx85 := bt_at a0 x3_3
                                                        replace p85 := eq_true p85
                                                        replace q85 := eq_true q85
                                                        have p92 : 0 ≤ (x3_3 : Int) := of_decide_eq_true (by first | (with_reducible assumption) | assumption)
                                                        have q92 : x3_3 < (a0.size : Int) := of_decide_eq_true (by first | (with_reducible assumption) | assumption)
                                                        have hx92 := bt_at a0 x3_3
                                                        replace p92 := eq_true p92
                                                        replace q92 := eq_true q92
                                                        have p98 : 0 ≤ (x3_3 : Int) := of_decide_eq_true (by first | (with_reducible assumption) | assumption)
                                                        have q98 : x3_3 < (a0.size : Int) := of_decide_eq_true (by first | (with_reducible assumption) | assumption)
                                                        have hx98 := bt_at a0 x3_3
                                                        replace p98 := eq_true p98
                                                        replace q98 := eq_true q98
                                                        have p104 : 0 ≤ (x3_3 : Int) := of_decide_eq_true (by first | (with_reducible assumption) | assumption)
                                                        have q104 : x3_3 < (a0.size : Int) := of_decide_eq_true (by first | (with_reducible assumption) | assumption)
                                                        have hx104 := bt_at a0 x3_3
                                                        replace p104 := eq_true p104
                                                        replace q104 := eq_true q104
                                                        go_wp2_with (first | ((with_reducible refine gate_builtin (b := .append) (xs := #[.tmp 167, .tmp 171]) rfl ?_); at_builtin; refine KdB.R_append (Kd.int .u8) (w0 := w) w.heap.size rfl (.tmp 167) (.tmp 171) 28 5 (.int .u8 0) 1 rfl Tryz.underlying28 info5 rfl (by decide) (by omega) u4 x4_3 (bt a0 x3_3) [.int .u8 (bt a0 x3_3)] (fun _ => True) (fun _ => False) rfl rfl ?aP (fun _ hk => hk.elim) ?aF ?aO ?aB ?aS ?aL ?_; (case aP => exact rfl); (case aB => exact (by repeat (first | (with_reducible first | exact HB.out | apply below_alloc | apply pw_below_drewN | apply below_drew1 | refine below_set ?_ GE118.out) | exact HB.out))); (case aF => exact (fun _ _ => trivial)); (case aO => exact (by (with_reducible repeat (first | apply KdB.R_alloc | apply KdB.R_drewN | apply KdB.R_drew)); exact HO_4.out)); (case aS => exact (below_size (by repeat (first | (with_reducible first | exact HB.out | apply below_alloc | apply pw_below_drewN | apply below_drew1 | refine below_set ?_ GE118.out) | exact HB.out)))); (case aL => have := LMc105.out; omega); intro v137 w106 ho hb hg hat; rw [← Ny136.out] at ho; have n0_ := Aside0.mk (blk_grown (g := gb118) (o := .cells #[.string x119000_3, .string x119001_3, .string x119002_3, .bool x119003_3, .bool x119004_3, .bool x119005_3] 31 (0, 0)) (by (with_reducible repeat (first | refine blk_drewN ?_ _ | refine blk_drew ?_ | refine blk_alloc ?_ _)); exact BK118.out) hg (KdB.R_ne HO_4.out BK118.out (by decide))); have n1_ := Aside0.mk (hb); have n2_ := Aside0.mk (ho); clear BK118; clear HB; clear HO_4; have BK118 := n0_; have HB := n1_; have HO138 := n2_; clear n0_ n1_ n2_; clear ho hb hg hat))
                                                        go_roundg k3
                                                        case measure => have := HK1.out; have := HJ32.out; have := HK3.out; omega
                                                        case rel => exact ⟨(wrap64 (x3_3 + 1)), (y136), (x119000_3), (x119001_3), (x119002_3), (x119003_3), (x119004_3), (x119005_3), (by first | rfl | (simp; done) | (simp [*]; done)), H', ⟨by have := HK1.out; have := HJ32.out; have := HK3.out; omega⟩, ⟨by (with_reducible repeat (first | apply KdB.R_alloc | apply KdB.R_drewN | apply KdB.R_drew)); exact HO138.out⟩, ⟨by (with_reducible repeat (first | refine blk_drewN ?_ _ | refine blk_drew ?_ | refine blk_alloc ?_ _)); exact BK118.out⟩, ⟨by repeat (first | (with_reducible first | exact HB.out | apply below_alloc | apply pw_below_drewN | apply below_drew1 | refine below_set ?_ GE118.out) | exact HB.out)⟩⟩
                                                      · rw [if_neg c105] at H
                                                        exact absurd H (by simp)
                                          · rw [if_neg c55] at H
                                            exact absurd H (by simp)
                                        · rw [if_neg c54] at H
                                          have c54b0 : decide (x3_3 < (a0.size : Int)) = false := decide_eq_false c54
                                          clear c54
                                          simp only [Option.some.injEq, Prod.mk.injEq] at H
                                          obtain ⟨rfl, rfl, rfl, rfl, rfl, rfl⟩ := H
                                          have hcv107 := KdB.own_string (P := Tryz.prog) Tryz.underlying28 Tryz.underlying5 Tryz.underlying9 (KdB.own_of_R HO_4.out)
                                          have hcz108_0 : wr.cell? ⟨gb118, 0, none⟩ = some (.string x119000_3) := (blk_cell BK118.out 0).trans rfl
                                          have hcz108_1 : wr.cell? ⟨gb118, 1, none⟩ = some (.string x119001_3) := (blk_cell BK118.out 1).trans rfl
                                          have hcz108_2 : wr.cell? ⟨gb118, 2, none⟩ = some (.string x119002_3) := (blk_cell BK118.out 2).trans rfl
                                          have hcz108_3 : wr.cell? ⟨gb118, 3, none⟩ = some (.bool x119003_3) := (blk_cell BK118.out 3).trans rfl
                                          have hcz108_4 : wr.cell? ⟨gb118, 4, none⟩ = some (.bool x119004_3) := (blk_cell BK118.out 4).trans rfl
                                          have hcz108_5 : wr.cell? ⟨gb118, 5, none⟩ = some (.bool x119005_3) := (blk_cell BK118.out 5).trans rfl
                                          have hfz108_0 := blk_frozen BK118.out 0
                                          have hfz108_1 := blk_frozen BK118.out 1
                                          have hfz108_2 := blk_frozen BK118.out 2
                                          have hfz108_3 := blk_frozen BK118.out 3
                                          have hfz108_4 := blk_frozen BK118.out 4
                                          have hfz108_5 := blk_frozen BK118.out 5
                                          go_wp2
                                          refine bodyPost_ret (results_cell_row rfl _ _ gb118 31 #[.string (strOfNums x4_3), .string x119001_3, .string x119002_3, .bool x119003_3, .bool x119004_3, .bool x119005_3] (0, 0) _ rfl (by (with_reducible repeat (first | refine blk_drewN ?_ _ | refine blk_drew ?_ | refine blk_alloc ?_ _)); refine blk_put (cs := #[.string x119000_3, .string x119001_3, .string x119002_3, .bool x119003_3, .bool x119004_3, .bool x119005_3]) ?_ 0 _ rfl; (with_reducible repeat (first | refine blk_drewN ?_ _ | refine blk_drew ?_ | refine blk_alloc ?_ _)); exact BK118.out) Tryz.underlying31 rfl (by kernel_rfl)) rfl ?_
                                          exact ⟨by first | rfl | (simp [errW_none, errW_some] <;> rfl) | (simp only [← hji47]; first | rfl | (simp [errW_none, errW_some] <;> rfl)) | (simp [*, errW_none, errW_some] <;> rfl), by repeat (first | (with_reducible first | exact HB.out | apply below_alloc | apply pw_below_drewN | apply below_drew1 | refine below_set ?_ GE118.out) | exact HB.out)⟩
                                  · rw [if_neg c50] at H
                                    exact absurd H (by simp)
                                · rw [if_neg c48] at H
                                  exact absurd H (by simp)
                              · rw [if_neg c46] at H
                                have c46b0 : decide ((wrap64 (x3_1 + 1)) < (a0.size : Int)) = false := decide_eq_false c46
                                clear c46
                                simp only [Option.some.injEq, Prod.mk.injEq] at H
                                obtain ⟨rfl, rfl, rfl, rfl, rfl, rfl⟩ := H
                                have p41 : 0 ≤ (x3_1 : Int) := of_decide_eq_true (by first | (with_reducible assumption) | assumption)
                                have q41 : x3_1 < (a0.size : Int) := of_decide_eq_true (by first | (with_reducible assumption) | assumption)
                                have hx41 := bt_at a0 x3_1
                                replace p41 := eq_true p41
                                replace q41 := eq_true q41
                                go_wp2_with (first | ((with_reducible refine gate_dst (N := 75) rfl ?_); refine KdB.R_conv 5 rfl (N := 75) rfl 9 28 _ rfl (a0.extract 0 (x3_1 : Int).toNat) rfl Tryz.underlying9 Tryz.underlying28 Tryz.underlying5 (ok := fun _ => True) trivial (of_decide_eq_true (by first | (with_reducible assumption) | assumption)) (Below.refl _ _) (Nat.le_refl _) ?_; intro v121 w109 ho110 hb hg_ hnew_; clear hg_ hnew_; (first | rw [← Ny120.out] at ho110 | (simp only [Int.reduceToNat] at ho110; rw [← Ny120.out] at ho110)); have n0_ := Aside0.mk (KdB.R_lower ho110 (below_size (by repeat (first | (with_reducible first | exact HB.out | apply below_alloc | apply pw_below_drewN | apply below_drew1 | refine below_set ?_ GE118.out) | exact HB.out)))); have n1_ := Aside0.mk (blk_below (g := gb118) (o := .cells #[.string x119000_1, .string x119001_1, .string x119002_1, .bool x119003_1, .bool x119004_1, .bool x119005_1] 31 (0, 0)) (by (with_reducible repeat (first | refine blk_drewN ?_ _ | refine blk_drew ?_ | refine blk_alloc ?_ _)); exact BK118.out) hb); have n2_ := Aside0.mk (below_step (by repeat (first | (with_reducible first | exact HB.out | apply below_alloc | apply pw_below_drewN | apply below_drew1 | refine below_set ?_ GE118.out) | exact HB.out)) hb); clear BK118; clear HB; have HO122 := n0_; have BK118 := n1_; have HB := n2_; clear n0_ n1_ n2_; clear hb ho110; have hcv111 := KdB.own_string (P := Tryz.prog) Tryz.underlying28 Tryz.underlying5 Tryz.underlying9 (KdB.own_of_R HO122.out); have hcz112_0 : w109.cell? ⟨gb118, 0, none⟩ = some (.string x119000_1) := (blk_cell BK118.out 0).trans rfl; have hcz112_1 : w109.cell? ⟨gb118, 1, none⟩ = some (.string x119001_1) := (blk_cell BK118.out 1).trans rfl; have hcz112_2 : w109.cell? ⟨gb118, 2, none⟩ = some (.string x119002_1) := (blk_cell BK118.out 2).trans rfl; have hcz112_3 : w109.cell? ⟨gb118, 3, none⟩ = some (.bool x119003_1) := (blk_cell BK118.out 3).trans rfl; have hcz112_4 : w109.cell? ⟨gb118, 4, none⟩ = some (.bool x119004_1) := (blk_cell BK118.out 4).trans rfl; have hcz112_5 : w109.cell? ⟨gb118, 5, none⟩ = some (.bool x119005_1) := (blk_cell BK118.out 5).trans rfl; have hfz112_0 := blk_frozen BK118.out 0; have hfz112_1 := blk_frozen BK118.out 1; have hfz112_2 := blk_frozen BK118.out 2; have hfz112_3 := blk_frozen BK118.out 3; have hfz112_4 := blk_frozen BK118.out 4; have hfz112_5 := blk_frozen BK118.out 5))
                                refine bodyPost_ret (results_cell_row rfl _ _ gb118 31 #[.string (strOfNums y120), .string x119001_1, .string x119002_1, .bool x119003_1, .bool x119004_1, .bool x119005_1] (0, 0) _ rfl (by (with_reducible repeat (first | refine blk_drewN ?_ _ | refine blk_drew ?_ | refine blk_alloc ?_ _)); refine blk_put (cs := #[.string x119000_1, .string x119001_1, .string x119002_1, .bool x119003_1, .bool x119004_1, .bool x119005_1]) ?_ 0 _ rfl; (with_reducible repeat (first | refine blk_drewN ?_ _ | refine blk_drew ?_ | refine blk_alloc ?_ _)); exact BK118.out) Tryz.underlying31 rfl (by kernel_rfl)) rfl ?_
                                exact ⟨by first | rfl | (simp [errW_none, errW_some] <;> rfl) | (simp [*, errW_none, errW_some] <;> rfl), by repeat (first | (with_reducible first | exact HB.out | apply below_alloc | apply pw_below_drewN | apply below_drew1 | refine below_set ?_ GE118.out) | exact HB.out)⟩
                            · rw [if_neg c45] at H
                              exact absurd H (by simp)
                          · rw [if_neg c44] at H
                            exact absurd H (by simp)
                        · rw [if_neg c42] at H
                          have c42b0 : ((bt a0 x3_1) == 92) = false := beq_eq_false_iff_ne.mpr c42
                          have c42b1 : ((bt a0 x3_1) != 92) = true := bne_iff_ne.mpr c42
                          have H' := Aside0.mk H
                          clear H
                          have p41 : 0 ≤ (x3_1 : Int) := of_decide_eq_true (by first | (with_reducible assumption) | assumption)
                          have q41 : x3_1 < (a0.size : Int) := of_decide_eq_true (by first | (with_reducible assumption) | assumption)
                          have hx41 := bt_at a0 x3_1
                          replace p41 := eq_true p41
                          replace q41 := eq_true q41
                          go_wp2
                          go_roundg kj32
                          case measure => have := HK1.out; have := HJ32.out; omega
                          case rel => exact ⟨(wrap64 (x3_1 + 1)), (x119000_1), (x119001_1), (x119002_1), (x119003_1), (x119004_1), (x119005_1), (by first | rfl | (simp; done) | (simp [*]; done)), H', ⟨by have := HK1.out; have := HJ32.out; omega⟩, ⟨by (with_reducible repeat (first | refine blk_drewN ?_ _ | refine blk_drew ?_ | refine blk_alloc ?_ _)); exact BK118.out⟩, ⟨by repeat (first | (with_reducible first | exact HB.out | apply below_alloc | apply pw_below_drewN | apply below_drew1 | refine below_set ?_ GE118.out) | exact HB.out)⟩⟩
                      · rw [if_neg c40] at H
                        exact absurd H (by simp)
                    · rw [if_neg c39] at H
                      exact absurd H (by simp)
        · rw [if_neg c4] at H
          exact absurd H (by simp)
      · rw [if_neg c3] at H
        have c3b0 : decide (x3_1 < (a0.size : Int)) = false := decide_eq_false c3
        clear c3
        simp only [Option.some.injEq, Prod.mk.injEq] at H
        obtain ⟨rfl, rfl, rfl, rfl, rfl, rfl⟩ := H
        have hcz113_0 : wr.cell? ⟨gb118, 0, none⟩ = some (.string x119000_1) := (blk_cell BK118.out 0).trans rfl
        have hcz113_1 : wr.cell? ⟨gb118, 1, none⟩ = some (.string x119001_1) := (blk_cell BK118.out 1).trans rfl
        have hcz113_2 : wr.cell? ⟨gb118, 2, none⟩ = some (.string x119002_1) := (blk_cell BK118.out 2).trans rfl
        have hcz113_3 : wr.cell? ⟨gb118, 3, none⟩ = some (.bool x119003_1) := (blk_cell BK118.out 3).trans rfl
        have hcz113_4 : wr.cell? ⟨gb118, 4, none⟩ = some (.bool x119004_1) := (blk_cell BK118.out 4).trans rfl
        have hcz113_5 : wr.cell? ⟨gb118, 5, none⟩ = some (.bool x119005_1) := (blk_cell BK118.out 5).trans rfl
        have hfz113_0 := blk_frozen BK118.out 0
        have hfz113_1 := blk_frozen BK118.out 1
        have hfz113_2 := blk_frozen BK118.out 2
        have hfz113_3 := blk_frozen BK118.out 3
        have hfz113_4 := blk_frozen BK118.out 4
        have hfz113_5 := blk_frozen BK118.out 5
        go_wp2
        refine bodyPost_ret (results_cell_row rfl _ _ gb118 31 #[.string a0, .string x119001_1, .string x119002_1, .bool x119003_1, .bool x119004_1, .bool x119005_1] (0, 0) _ rfl (by (with_reducible repeat (first | refine blk_drewN ?_ _ | refine blk_drew ?_ | refine blk_alloc ?_ _)); refine blk_put (cs := #[.string x119000_1, .string x119001_1, .string x119002_1, .bool x119003_1, .bool x119004_1, .bool x119005_1]) ?_ 0 _ rfl; (with_reducible repeat (first | refine blk_drewN ?_ _ | refine blk_drew ?_ | refine blk_alloc ?_ _)); exact BK118.out) Tryz.underlying31 rfl (by kernel_rfl)) rfl ?_
        exact ⟨by first | rfl | (simp [errW_none, errW_some] <;> rfl) | (simp [*, errW_none, errW_some] <;> rfl), by repeat (first | (with_reducible first | exact HB.out | apply below_alloc | apply pw_below_drewN | apply below_drew1 | refine below_set ?_ GE118.out) | exact HB.out)⟩

end Go.Proofs.YtnpkgjoiencbiaaGreatDoor.MOP
