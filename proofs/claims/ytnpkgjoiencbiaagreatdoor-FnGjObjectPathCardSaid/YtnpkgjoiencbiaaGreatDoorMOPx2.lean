-- written by a program of this session (wip/myprint.py, a driver over the kit's print); Lean checks it
import Derived.Test.YtnpkgjoiencbiaaGreatDoorMOPx0
namespace Go.Proofs.YtnpkgjoiencbiaaGreatDoor.MOP
open Go.RowKit Go.Proofs.YtnpkgjoiencbiaaGreatDoorW.PrintWords Go.Proofs.YtnpkgjoiencbiaaGreatDoorW.PrintLast Go.Proofs.YtnpkgjoiencbiaaGreatDoorW.PrintMore
attribute [local go_sem] max2_int min2_int max_two min_two max_three min_three max_four min_four   -- for this text's walks alone
set_option linter.unusedVariables false
set_option linter.unusedSimpArgs false

/-! ### gjson_isDotPiperChar: function 12 -/
def gjson_isDotPiperChar.l0 : Nat → ByteArray → Int → Option (Bool)
  | 0, _, _ => none
  | k + 1, x0, x4 => if x4 < (x0.size : Int) then (if 0 ≤ x4 then (if (bt x0 x4) = 46 then (if 1 ≤ x4 then (if x4 ≤ (x0.size : Int) then (none) else (none)) else (none)) else (if (bt x0 x4) = 124 then (if 1 ≤ x4 then (if x4 ≤ (x0.size : Int) then (none) else (none)) else (none)) else (if (bt x0 x4) = 58 then (if 1 ≤ x4 then (if x4 ≤ (x0.size : Int) then (none) else (none)) else (none)) else (gjson_isDotPiperChar.l0 k x0 (wrap64 (x4 + 1)))))) else (none)) else (if 1 ≤ x4 then (if x4 ≤ (x0.size : Int) then (none) else (none)) else (none))
def gjson_isDotPiperChar.f (k : Nat) (a0 : ByteArray) : Option (Bool) := if 0 < (a0.size : Int) then (if (bt a0 0) = 64 then (gjson_isDotPiperChar.l0 k a0 1) else (if (bt a0 0) = 91 then (some true) else (some ((bt a0 0) == 123)))) else (none)
theorem gjson_isDotPiperChar.mono_l : ∀ k, (∀ y0 y1, LeO (gjson_isDotPiperChar.l0 k y0 y1) (gjson_isDotPiperChar.l0 (k + 1) y0 y1))
  | 0 => fun _ _ r h => by simp [gjson_isDotPiperChar.l0] at h
  | k + 1 => by
    have ih0 := gjson_isDotPiperChar.mono_l k
    · intro y0 y1
      unfold gjson_isDotPiperChar.l0
      repeat' first
      | (with_reducible exact ih0 _ _)
      | (with_reducible exact LeO.refl _)
      | (with_reducible exact LeO.none _)
      | (with_reducible refine LeO.ite ?_ ?_)
      | (with_reducible refine LeO.bind ?_ (fun _ => ?_))
      | exact ih0 _ _
      | exact LeO.none _
      | refine LeO.ite ?_ ?_
      | refine LeO.bind ?_ (fun _ => ?_)
theorem gjson_isDotPiperChar.mono : ∀ a0 k, LeO (gjson_isDotPiperChar.f k a0) (gjson_isDotPiperChar.f (k + 1) a0) := by
  intro a0 k
  have ih0 := gjson_isDotPiperChar.mono_l k
  unfold gjson_isDotPiperChar.f
  repeat' first
      | (with_reducible exact ih0 _ _)
      | (with_reducible exact LeO.refl _)
      | (with_reducible exact LeO.none _)
      | (with_reducible refine LeO.ite ?_ ?_)
      | (with_reducible refine LeO.bind ?_ (fun _ => ?_))
      | exact ih0 _ _
      | exact LeO.none _
      | refine LeO.ite ?_ ?_
      | refine LeO.bind ?_ (fun _ => ?_)
set_option maxHeartbeats 8000000 in
set_option maxRecDepth 100000 in
theorem gjson_isDotPiperChar.calls (k : Nat) (a0 : ByteArray) (r : Bool) (w : World) (h : gjson_isDotPiperChar.f k a0 = some r) :
    Calls Tryz.prog 12 #[.string a0] w fun e w' => e = .returned (.bool r) ∧ Drawn0 w w' := by
  have H : (if 0 < (a0.size : Int) then (if (bt a0 0) = 64 then (gjson_isDotPiperChar.l0 k a0 1) else (if (bt a0 0) = 91 then (some true) else (some ((bt a0 0) == 123)))) else (none)) = some r := h
  clear h
  by_cases c2 : 0 < (a0.size : Int)
  · rw [if_pos c2] at H
    have c2b0 : decide (0 < (a0.size : Int)) = true := decide_eq_true c2
    have c2b1 : decide (0 < a0.size) = true := decide_eq_true (by omega)
    clear c2
    by_cases c4 : (bt a0 0) = 64
    · rw [if_pos c4] at H
      have c4b0 : ((bt a0 0) == 64) = true := beq_iff_eq.mpr c4
      have c4b1 : ((bt a0 0) != 64) = false := bne_eq_false_iff_eq.mpr c4
      clear c4
      have H' := Aside0.mk H
      clear H
      have p3 : 0 ≤ (0 : Int) := (by omega)
      have q3 : 0 < a0.size := (by have : (0 : Int) < (a0.size : Int) := of_decide_eq_true (by first | (with_reducible assumption) | assumption); omega)
      have hx3 : ∀ h : 0 < a0.size, ((a0[0]'h).toNat : Int) = bt a0 0 := bt_at a0 0
      clear p3
      have qi3 : (0 < (a0.size : Int)) = True := eq_true (of_decide_eq_true (by first | (with_reducible assumption) | assumption))
      replace q3 := eq_true q3
      go_enter Tryz.func12, Tryz.ntmps12
      go_wp2
      go_loopg [4] k (fun kq v4 w' => ∃ (x4_1 : Int), v4 = .int .i64 x4_1 ∧ Aside0 (gjson_isDotPiperChar.l0 kq a0 x4_1 = some r) ∧ Aside0 (kq ≤ k) ∧ Drawn0 w w')
      case atStart => exact ⟨(1), (by first | rfl | (simp; done) | (simp [*]; done)), H', ⟨Nat.le_refl _⟩, by repeat (first | exact Drawn0.refl _ | apply Drawn0.step)⟩
      case round =>
        clear H'
        try clear c1
        try clear c2
        try clear c2b0
        try clear c2b1
        try clear p2
        try clear p3
        try clear q3
        try clear hx3
        try clear qi3
        try clear c4
        try clear c4b0
        try clear c4b1
        try clear p3
        try clear q3
        obtain ⟨x4_1, rfl, HA, HK1, ⟨m1, rfl⟩⟩ := hrel
        cases gk with
        | zero => exact absurd HA.out (by simp [gjson_isDotPiperChar.l0])
        | succ k1 =>
          have H := HA.out
          clear HA
          simp only [gjson_isDotPiperChar.l0] at H
          by_cases c5 : x4_1 < (a0.size : Int)
          · rw [if_pos c5] at H
            have c5b0 : decide (x4_1 < (a0.size : Int)) = true := decide_eq_true c5
            clear c5
            by_cases c6 : 0 ≤ x4_1
            · rw [if_pos c6] at H
              have c6b0 : decide (0 ≤ x4_1) = true := decide_eq_true c6
              clear c6
              by_cases c8 : (bt a0 x4_1) = 46
              · rw [if_pos c8] at H
                have c8b0 : ((bt a0 x4_1) == 46) = true := beq_iff_eq.mpr c8
                have c8b1 : ((bt a0 x4_1) != 46) = false := bne_eq_false_iff_eq.mpr c8
                clear c8
                by_cases c9 : 1 ≤ x4_1
                · rw [if_pos c9] at H
                  have c9b0 := eq_true c9
                  have c9b1 : decide (1 ≤ x4_1) = true := decide_eq_true c9
                  clear c9
                  by_cases c10 : x4_1 ≤ (a0.size : Int)
                  · rw [if_pos c10] at H
                    exact absurd H (by simp)
                  · rw [if_neg c10] at H
                    exact absurd H (by simp)
                · rw [if_neg c9] at H
                  exact absurd H (by simp)
              · rw [if_neg c8] at H
                have c8b0 : ((bt a0 x4_1) == 46) = false := beq_eq_false_iff_ne.mpr c8
                have c8b1 : ((bt a0 x4_1) != 46) = true := bne_iff_ne.mpr c8
                by_cases c12 : (bt a0 x4_1) = 124
                · rw [if_pos c12] at H
                  have c12b0 : ((bt a0 x4_1) == 124) = true := beq_iff_eq.mpr c12
                  have c12b1 : ((bt a0 x4_1) != 124) = false := bne_eq_false_iff_eq.mpr c12
                  clear c12
                  by_cases c13 : 1 ≤ x4_1
                  · rw [if_pos c13] at H
                    have c13b0 := eq_true c13
                    have c13b1 : decide (1 ≤ x4_1) = true := decide_eq_true c13
                    clear c13
                    by_cases c14 : x4_1 ≤ (a0.size : Int)
                    · rw [if_pos c14] at H
                      exact absurd H (by simp)
                    · rw [if_neg c14] at H
                      exact absurd H (by simp)
                  · rw [if_neg c13] at H
                    exact absurd H (by simp)
                · rw [if_neg c12] at H
                  have c12b0 : ((bt a0 x4_1) == 124) = false := beq_eq_false_iff_ne.mpr c12
                  have c12b1 : ((bt a0 x4_1) != 124) = true := bne_iff_ne.mpr c12
                  by_cases c16 : (bt a0 x4_1) = 58
                  · rw [if_pos c16] at H
                    have c16b0 : ((bt a0 x4_1) == 58) = true := beq_iff_eq.mpr c16
                    have c16b1 : ((bt a0 x4_1) != 58) = false := bne_eq_false_iff_eq.mpr c16
                    clear c16
                    by_cases c17 : 1 ≤ x4_1
                    · rw [if_pos c17] at H
                      have c17b0 := eq_true c17
                      have c17b1 : decide (1 ≤ x4_1) = true := decide_eq_true c17
                      clear c17
                      by_cases c18 : x4_1 ≤ (a0.size : Int)
                      · rw [if_pos c18] at H
                        exact absurd H (by simp)
                      · rw [if_neg c18] at H
                        exact absurd H (by simp)
                    · rw [if_neg c17] at H
                      exact absurd H (by simp)
                  · rw [if_neg c16] at H
                    have c16b0 : ((bt a0 x4_1) == 58) = false := beq_eq_false_iff_ne.mpr c16
                    have c16b1 : ((bt a0 x4_1) != 58) = true := bne_iff_ne.mpr c16
                    have H' := Aside0.mk H
                    clear H
                    have p7 : 0 ≤ (x4_1 : Int) := of_decide_eq_true (by first | (with_reducible assumption) | assumption)
                    have q7 : x4_1 < (a0.size : Int) := of_decide_eq_true (by first | (with_reducible assumption) | assumption)
                    have hx7 := bt_at a0 x4_1
                    replace p7 := eq_true p7
                    replace q7 := eq_true q7
                    have p11 : 0 ≤ (x4_1 : Int) := of_decide_eq_true (by first | (with_reducible assumption) | assumption)
                    have q11 : x4_1 < (a0.size : Int) := of_decide_eq_true (by first | (with_reducible assumption) | assumption)
                    have hx11 := bt_at a0 x4_1
                    replace p11 := eq_true p11
                    replace q11 := eq_true q11
                    have p15 : 0 ≤ (x4_1 : Int) := of_decide_eq_true (by first | (with_reducible assumption) | assumption)
                    have q15 : x4_1 < (a0.size : Int) := of_decide_eq_true (by first | (with_reducible assumption) | assumption)
                    have hx15 := bt_at a0 x4_1
                    replace p15 := eq_true p15
                    replace q15 := eq_true q15
                    go_wp2
                    go_roundg k1
                    case measure => have := HK1.out; omega
                    case rel => exact ⟨(wrap64 (x4_1 + 1)), (by first | rfl | (simp; done) | (simp [*]; done)), H', ⟨by have := HK1.out; omega⟩, by repeat (first | exact Drawn0.refl _ | apply Drawn0.step)⟩
            · rw [if_neg c6] at H
              exact absurd H (by simp)
          · rw [if_neg c5] at H
            have c5b0 : decide (x4_1 < (a0.size : Int)) = false := decide_eq_false c5
            clear c5
            by_cases c19 : 1 ≤ x4_1
            · rw [if_pos c19] at H
              have c19b0 := eq_true c19
              have c19b1 : decide (1 ≤ x4_1) = true := decide_eq_true c19
              clear c19
              by_cases c20 : x4_1 ≤ (a0.size : Int)
              · rw [if_pos c20] at H
                exact absurd H (by simp)
              · rw [if_neg c20] at H
                exact absurd H (by simp)
            · rw [if_neg c19] at H
              exact absurd H (by simp)
    · rw [if_neg c4] at H
      have c4b0 : ((bt a0 0) == 64) = false := beq_eq_false_iff_ne.mpr c4
      have c4b1 : ((bt a0 0) != 64) = true := bne_iff_ne.mpr c4
      by_cases c21 : (bt a0 0) = 91
      · rw [if_pos c21] at H
        have c21b0 : ((bt a0 0) == 91) = true := beq_iff_eq.mpr c21
        have c21b1 : ((bt a0 0) != 91) = false := bne_eq_false_iff_eq.mpr c21
        clear c21
        obtain rfl := Option.some.inj H
        have p3 : 0 ≤ (0 : Int) := (by omega)
        have q3 : 0 < a0.size := (by have : (0 : Int) < (a0.size : Int) := of_decide_eq_true (by first | (with_reducible assumption) | assumption); omega)
        have hx3 : ∀ h : 0 < a0.size, ((a0[0]'h).toNat : Int) = bt a0 0 := bt_at a0 0
        clear p3
        have qi3 : (0 < (a0.size : Int)) = True := eq_true (of_decide_eq_true (by first | (with_reducible assumption) | assumption))
        replace q3 := eq_true q3
        go_enter Tryz.func12, Tryz.ntmps12
        go_wp2
        go_ret
        exact ⟨by first | rfl | (simp; done) | (simp [*]; done), by repeat (first | exact Drawn0.refl _ | apply Drawn0.step)⟩
      · rw [if_neg c21] at H
        have c21b0 : ((bt a0 0) == 91) = false := beq_eq_false_iff_ne.mpr c21
        have c21b1 : ((bt a0 0) != 91) = true := bne_iff_ne.mpr c21
        obtain rfl := Option.some.inj H
        have p3 : 0 ≤ (0 : Int) := (by omega)
        have q3 : 0 < a0.size := (by have : (0 : Int) < (a0.size : Int) := of_decide_eq_true (by first | (with_reducible assumption) | assumption); omega)
        have hx3 : ∀ h : 0 < a0.size, ((a0[0]'h).toNat : Int) = bt a0 0 := bt_at a0 0
        clear p3
        have qi3 : (0 < (a0.size : Int)) = True := eq_true (of_decide_eq_true (by first | (with_reducible assumption) | assumption))
        replace q3 := eq_true q3
        go_enter Tryz.func12, Tryz.ntmps12
        go_wp2
        go_ret
        exact ⟨by first | rfl | (simp; done) | (simp [*]; done), by repeat (first | exact Drawn0.refl _ | apply Drawn0.step)⟩
  · rw [if_neg c2] at H
    exact absurd H (by simp)

end Go.Proofs.YtnpkgjoiencbiaaGreatDoor.MOP
