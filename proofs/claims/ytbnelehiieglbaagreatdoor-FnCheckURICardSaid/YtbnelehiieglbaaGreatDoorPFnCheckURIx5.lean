-- PRINTED BY print.sh 35421559b90ae4d0a3588c463048766b98c2df88dd9212a6774a882060cdf62d: not written by this session
import Derived.Test.YtbnelehiieglbaaGreatDoorPFnCheckURIx0
namespace Go.Proofs.YtbnelehiieglbaaGreatDoor.PFnCheckURI
open Go.RowKit Go.Proofs.YtbnelehiieglbaaGreatDoorW.PrintWords Go.Proofs.YtbnelehiieglbaaGreatDoorW.PrintLast Go.Proofs.YtbnelehiieglbaaGreatDoorW.PrintMore
attribute [local go_sem] max2_int min2_int max_two min_two max_three min_three max_four min_four   -- for this text's walks alone
set_option linter.unusedVariables false
set_option linter.unusedSimpArgs false

/-! ### nameconstraints_dnsHasSuffix: function 40 -/
def nameconstraints_dnsHasSuffix.l0 : Nat → ByteArray → ByteArray → Int → Int → Int → Int → Option (Bool)
  | 0, _, _, _, _, _, _ => none
  | k + 1, x0, x1, x5, x6, x7, x8 => if x7 ≥ 0 then (if 0 ≤ x7 then (if x7 < (x0.size : Int) then (if 0 ≤ (wrap64 (x7 - x8)) then (if (wrap64 (x7 - x8)) < (x1.size : Int) then (if (bt x0 x7) = (bt x1 (wrap64 (x7 - x8))) then (nameconstraints_dnsHasSuffix.l0 k x0 x1 x5 x6 (wrap64 (x7 - 1)) x8) else (if (bt x1 (wrap64 (x7 - x8))) < (bt x0 x7) then (if 65 ≤ (bt x1 (wrap64 (x7 - x8))) then (if (bt x1 (wrap64 (x7 - x8))) ≤ 90 then (if (bt x0 x7) = (((((bt x1 (wrap64 (x7 - x8))) + 97) % 256) - 65) % 256) then (nameconstraints_dnsHasSuffix.l0 k x0 x1 x5 x6 (wrap64 (x7 - 1)) x8) else (some false)) else (some false)) else (some false)) else (if 65 ≤ (bt x0 x7) then (if (bt x0 x7) ≤ 90 then (if (bt x1 (wrap64 (x7 - x8))) = (((((bt x0 x7) + 97) % 256) - 65) % 256) then (nameconstraints_dnsHasSuffix.l0 k x0 x1 x5 x6 (wrap64 (x7 - 1)) x8) else (some false)) else (some false)) else (some false)))) else (none)) else (none)) else (none)) else (none)) else (if 0 < (x0.size : Int) then (if (bt x0 0) = 46 then (some true) else (if x6 > x5 then (if 0 ≤ (wrap64 ((wrap64 (x6 - x5)) - 1)) then (if (wrap64 ((wrap64 (x6 - x5)) - 1)) < (x1.size : Int) then (if (bt x1 (wrap64 ((wrap64 (x6 - x5)) - 1))) = 46 then (some true) else (some false)) else (none)) else (none)) else (some true))) else (none))
def nameconstraints_dnsHasSuffix.f (k : Nat) (a0 : ByteArray) (a1 : ByteArray) : Option (Bool) := if (a0.size : Int) > (a1.size : Int) then (some false) else (nameconstraints_dnsHasSuffix.l0 k a0 a1 (a0.size : Int) (a1.size : Int) (wrap64 ((a0.size : Int) - 1)) (wrap64 ((a0.size : Int) - (a1.size : Int))))
theorem nameconstraints_dnsHasSuffix.mono_l : ∀ k, (∀ y0 y1 y2 y3 y4 y5, LeO (nameconstraints_dnsHasSuffix.l0 k y0 y1 y2 y3 y4 y5) (nameconstraints_dnsHasSuffix.l0 (k + 1) y0 y1 y2 y3 y4 y5))
  | 0 => fun _ _ _ _ _ _ r h => by simp [nameconstraints_dnsHasSuffix.l0] at h
  | k + 1 => by
    have ih0 := nameconstraints_dnsHasSuffix.mono_l k
    · intro y0 y1 y2 y3 y4 y5
      unfold nameconstraints_dnsHasSuffix.l0
      repeat' first
      | (with_reducible exact ih0 _ _ _ _ _ _)
      | (with_reducible exact LeO.refl _)
      | (with_reducible exact LeO.none _)
      | (with_reducible refine LeO.ite ?_ ?_)
      | (with_reducible refine LeO.bind ?_ (fun _ => ?_))
      | exact ih0 _ _ _ _ _ _
      | exact LeO.none _
      | refine LeO.ite ?_ ?_
      | refine LeO.bind ?_ (fun _ => ?_)
theorem nameconstraints_dnsHasSuffix.mono : ∀ a0 a1 k, LeO (nameconstraints_dnsHasSuffix.f k a0 a1) (nameconstraints_dnsHasSuffix.f (k + 1) a0 a1) := by
  intro a0 a1 k
  have ih0 := nameconstraints_dnsHasSuffix.mono_l k
  unfold nameconstraints_dnsHasSuffix.f
  repeat' first
      | (with_reducible exact ih0 _ _ _ _ _ _)
      | (with_reducible exact LeO.refl _)
      | (with_reducible exact LeO.none _)
      | (with_reducible refine LeO.ite ?_ ?_)
      | (with_reducible refine LeO.bind ?_ (fun _ => ?_))
      | exact ih0 _ _ _ _ _ _
      | exact LeO.none _
      | refine LeO.ite ?_ ?_
      | refine LeO.bind ?_ (fun _ => ?_)
set_option maxHeartbeats 8000000 in
set_option maxRecDepth 100000 in
theorem nameconstraints_dnsHasSuffix.calls (k : Nat) (a0 : ByteArray) (a1 : ByteArray) (r : Bool) (w : World) (h : nameconstraints_dnsHasSuffix.f k a0 a1 = some r) :
    Calls Tryz.prog 40 #[.string a0, .string a1] w fun e w' => e = .returned (.bool r) ∧ Drawn0 w w' := by
  have H : (if (a0.size : Int) > (a1.size : Int) then (some false) else (nameconstraints_dnsHasSuffix.l0 k a0 a1 (a0.size : Int) (a1.size : Int) (wrap64 ((a0.size : Int) - 1)) (wrap64 ((a0.size : Int) - (a1.size : Int))))) = some r := h
  clear h
  by_cases c3 : (a0.size : Int) > (a1.size : Int)
  · rw [if_pos c3] at H
    have c3b0 : decide ((a1.size : Int) < (a0.size : Int)) = true := decide_eq_true c3
    have c3b1 : decide (a1.size < a0.size) = true := decide_eq_true (Int.ofNat_lt.mp c3)
    clear c3
    obtain rfl := Option.some.inj H
    go_enter Tryz.func40, Tryz.ntmps40
    go_wp2
    repeat (go_quiet (fail); try go_wp2)
    go_ret
    exact ⟨by first | rfl | (simp; done) | (simp [*]; done), by repeat (first | exact Drawn0.refl _ | apply Drawn0.step)⟩
  · rw [if_neg c3] at H
    have c3b0 : decide ((a1.size : Int) < (a0.size : Int)) = false := decide_eq_false c3
    have c3b1 : decide (a1.size < a0.size) = false := decide_eq_false (fun h => c3 (Int.ofNat_lt.mpr h))
    clear c3
    have H' := Aside0.mk H
    clear H
    go_enter Tryz.func40, Tryz.ntmps40
    go_wp2
    repeat (go_quiet (fail); try go_wp2)
    go_loopg [7] k (fun kq v7 w' => ∃ (x7_1 : Int), v7 = .int .i64 x7_1 ∧ Aside0 (nameconstraints_dnsHasSuffix.l0 kq a0 a1 (a0.size : Int) (a1.size : Int) x7_1 (wrap64 ((a0.size : Int) - (a1.size : Int))) = some r) ∧ Aside0 (kq ≤ k) ∧ Drawn0 w w')
    case atStart => exact ⟨(wrap64 ((a0.size : Int) - 1)), (by first | rfl | (simp; done) | (simp [*]; done)), H', ⟨Nat.le_refl _⟩, by repeat (first | exact Drawn0.refl _ | apply Drawn0.step)⟩
    case round =>
      clear H'
      try clear p2
      try clear c3
      try clear c3b0
      try clear c3b1
      obtain ⟨x7_1, rfl, HA, HK1, ⟨m1, rfl⟩⟩ := hrel
      cases gk with
      | zero => exact absurd HA.out (by simp [nameconstraints_dnsHasSuffix.l0])
      | succ k1 =>
        have H := HA.out
        clear HA
        simp only [nameconstraints_dnsHasSuffix.l0] at H
        by_cases c4 : x7_1 ≥ 0
        · rw [if_pos c4] at H
          have c4b0 : decide (0 ≤ x7_1) = true := decide_eq_true c4
          clear c4
          by_cases c5 : 0 ≤ x7_1
          · rw [if_pos c5] at H
            have c5b0 : decide (0 ≤ x7_1) = true := decide_eq_true c5
            clear c5
            by_cases c6 : x7_1 < (a0.size : Int)
            · rw [if_pos c6] at H
              have c6b0 : decide (x7_1 < (a0.size : Int)) = true := decide_eq_true c6
              clear c6
              obtain ⟨ji8, hji8⟩ : ∃ j_ : Int, (wrap64 (x7_1 - (wrap64 ((a0.size : Int) - (a1.size : Int))))) = j_ := ⟨_, rfl⟩
              replace H : (if 0 ≤ (ji8) then (if (ji8) < (a1.size : Int) then (if (bt a0 x7_1) = (bt a1 (ji8)) then (nameconstraints_dnsHasSuffix.l0 k1 a0 a1 (a0.size : Int) (a1.size : Int) (wrap64 (x7_1 - 1)) (wrap64 ((a0.size : Int) - (a1.size : Int)))) else (if (bt a1 (ji8)) < (bt a0 x7_1) then (if 65 ≤ (bt a1 (ji8)) then (if (bt a1 (ji8)) ≤ 90 then (if (bt a0 x7_1) = (((((bt a1 (ji8)) + 97) % 256) - 65) % 256) then (nameconstraints_dnsHasSuffix.l0 k1 a0 a1 (a0.size : Int) (a1.size : Int) (wrap64 (x7_1 - 1)) (wrap64 ((a0.size : Int) - (a1.size : Int)))) else (some false)) else (some false)) else (some false)) else (if 65 ≤ (bt a0 x7_1) then (if (bt a0 x7_1) ≤ 90 then (if (bt a1 (ji8)) = (((((bt a0 x7_1) + 97) % 256) - 65) % 256) then (nameconstraints_dnsHasSuffix.l0 k1 a0 a1 (a0.size : Int) (a1.size : Int) (wrap64 (x7_1 - 1)) (wrap64 ((a0.size : Int) - (a1.size : Int)))) else (some false)) else (some false)) else (some false)))) else (none)) else (none)) = some r := by first | (rw [hji8] at H; exact H) | (simp only [hji8] at H ⊢; exact H)
              have hji8w : (IntKind.i64.wrap (x7_1 - (wrap64 ((a0.size : Int) - (a1.size : Int))))) = ji8 := (i64_w _).trans hji8
              by_cases c9 : 0 ≤ (ji8)
              · rw [if_pos c9] at H
                have c9b0 : decide (0 ≤ (ji8)) = true := decide_eq_true c9
                clear c9
                by_cases c10 : (ji8) < (a1.size : Int)
                · rw [if_pos c10] at H
                  have c10b0 : decide ((ji8) < (a1.size : Int)) = true := decide_eq_true c10
                  clear c10
                  by_cases c12 : (bt a0 x7_1) = (bt a1 (ji8))
                  · rw [if_pos c12] at H
                    have c12b0 : ((bt a0 x7_1) == (bt a1 (ji8))) = true := beq_iff_eq.mpr c12
                    have c12b1 : ((bt a0 x7_1) != (bt a1 (ji8))) = false := bne_eq_false_iff_eq.mpr c12
                    clear c12
                    have H' := Aside0.mk H
                    clear H
                    have p7 : 0 ≤ (x7_1 : Int) := of_decide_eq_true (by first | (with_reducible assumption) | assumption)
                    have q7 : x7_1 < (a0.size : Int) := of_decide_eq_true (by first | (with_reducible assumption) | assumption)
                    have hx7 := bt_at a0 x7_1
                    replace p7 := eq_true p7
                    replace q7 := eq_true q7
                    have p11 : 0 ≤ ((ji8) : Int) := of_decide_eq_true (by first | (with_reducible assumption) | assumption)
                    have q11 : (ji8) < (a1.size : Int) := of_decide_eq_true (by first | (with_reducible assumption) | assumption)
                    have hx11 := bt_at a1 (ji8)
                    replace p11 := eq_true p11
                    replace q11 := eq_true q11
                    go_wp2
                    repeat (go_quiet (fail); try go_wp2)
                    go_roundg k1
                    case measure => have := HK1.out; omega
                    case rel => exact ⟨(wrap64 (x7_1 - 1)), (by first | rfl | (simp; done) | (simp [*]; done)), H', ⟨by have := HK1.out; omega⟩, by repeat (first | exact Drawn0.refl _ | apply Drawn0.step)⟩
                  · rw [if_neg c12] at H
                    have c12b0 : ((bt a0 x7_1) == (bt a1 (ji8))) = false := beq_eq_false_iff_ne.mpr c12
                    have c12b1 : ((bt a0 x7_1) != (bt a1 (ji8))) = true := bne_iff_ne.mpr c12
                    by_cases c13 : (bt a1 (ji8)) < (bt a0 x7_1)
                    · rw [if_pos c13] at H
                      have c13b0 : decide ((bt a1 (ji8)) < (bt a0 x7_1)) = true := decide_eq_true c13
                      clear c13
                      by_cases c14 : 65 ≤ (bt a1 (ji8))
                      · rw [if_pos c14] at H
                        have c14b0 : decide (65 ≤ (bt a1 (ji8))) = true := decide_eq_true c14
                        clear c14
                        by_cases c15 : (bt a1 (ji8)) ≤ 90
                        · rw [if_pos c15] at H
                          have c15b0 : decide ((bt a1 (ji8)) ≤ 90) = true := decide_eq_true c15
                          clear c15
                          by_cases c16 : (bt a0 x7_1) = (((((bt a1 (ji8)) + 97) % 256) - 65) % 256)
                          · rw [if_pos c16] at H
                            have c16b0 : ((bt a0 x7_1) == (((((bt a1 (ji8)) + 97) % 256) - 65) % 256)) = true := beq_iff_eq.mpr c16
                            have c16b1 : ((bt a0 x7_1) != (((((bt a1 (ji8)) + 97) % 256) - 65) % 256)) = false := bne_eq_false_iff_eq.mpr c16
                            clear c16
                            have H' := Aside0.mk H
                            clear H
                            have p7 : 0 ≤ (x7_1 : Int) := of_decide_eq_true (by first | (with_reducible assumption) | assumption)
                            have q7 : x7_1 < (a0.size : Int) := of_decide_eq_true (by first | (with_reducible assumption) | assumption)
                            have hx7 := bt_at a0 x7_1
                            replace p7 := eq_true p7
                            replace q7 := eq_true q7
                            have p11 : 0 ≤ ((ji8) : Int) := of_decide_eq_true (by first | (with_reducible assumption) | assumption)
                            have q11 : (ji8) < (a1.size : Int) := of_decide_eq_true (by first | (with_reducible assumption) | assumption)
                            have hx11 := bt_at a1 (ji8)
                            replace p11 := eq_true p11
                            replace q11 := eq_true q11
                            go_wp2
                            repeat (go_quiet (fail); try go_wp2)
                            go_roundg k1
                            case measure => have := HK1.out; omega
                            case rel => exact ⟨(wrap64 (x7_1 - 1)), (by first | rfl | (simp; done) | (simp [*]; done)), H', ⟨by have := HK1.out; omega⟩, by repeat (first | exact Drawn0.refl _ | apply Drawn0.step)⟩
                          · rw [if_neg c16] at H
                            have c16b0 : ((bt a0 x7_1) == (((((bt a1 (ji8)) + 97) % 256) - 65) % 256)) = false := beq_eq_false_iff_ne.mpr c16
                            have c16b1 : ((bt a0 x7_1) != (((((bt a1 (ji8)) + 97) % 256) - 65) % 256)) = true := bne_iff_ne.mpr c16
                            obtain rfl := Option.some.inj H
                            have p7 : 0 ≤ (x7_1 : Int) := of_decide_eq_true (by first | (with_reducible assumption) | assumption)
                            have q7 : x7_1 < (a0.size : Int) := of_decide_eq_true (by first | (with_reducible assumption) | assumption)
                            have hx7 := bt_at a0 x7_1
                            replace p7 := eq_true p7
                            replace q7 := eq_true q7
                            have p11 : 0 ≤ ((ji8) : Int) := of_decide_eq_true (by first | (with_reducible assumption) | assumption)
                            have q11 : (ji8) < (a1.size : Int) := of_decide_eq_true (by first | (with_reducible assumption) | assumption)
                            have hx11 := bt_at a1 (ji8)
                            replace p11 := eq_true p11
                            replace q11 := eq_true q11
                            go_wp2
                            repeat (go_quiet (fail); try go_wp2)
                            go_ret
                            exact ⟨by first | rfl | (simp; done) | (simp only [← hji8] <;> (first | rfl | simp)) | (simp [*]; done), by repeat (first | exact Drawn0.refl _ | apply Drawn0.step)⟩
                        · rw [if_neg c15] at H
                          have c15b0 : decide ((bt a1 (ji8)) ≤ 90) = false := decide_eq_false c15
                          clear c15
                          obtain rfl := Option.some.inj H
                          have p7 : 0 ≤ (x7_1 : Int) := of_decide_eq_true (by first | (with_reducible assumption) | assumption)
                          have q7 : x7_1 < (a0.size : Int) := of_decide_eq_true (by first | (with_reducible assumption) | assumption)
                          have hx7 := bt_at a0 x7_1
                          replace p7 := eq_true p7
                          replace q7 := eq_true q7
                          have p11 : 0 ≤ ((ji8) : Int) := of_decide_eq_true (by first | (with_reducible assumption) | assumption)
                          have q11 : (ji8) < (a1.size : Int) := of_decide_eq_true (by first | (with_reducible assumption) | assumption)
                          have hx11 := bt_at a1 (ji8)
                          replace p11 := eq_true p11
                          replace q11 := eq_true q11
                          go_wp2
                          repeat (go_quiet (fail); try go_wp2)
                          go_ret
                          exact ⟨by first | rfl | (simp; done) | (simp only [← hji8] <;> (first | rfl | simp)) | (simp [*]; done), by repeat (first | exact Drawn0.refl _ | apply Drawn0.step)⟩
                      · rw [if_neg c14] at H
                        have c14b0 : decide (65 ≤ (bt a1 (ji8))) = false := decide_eq_false c14
                        clear c14
                        obtain rfl := Option.some.inj H
                        have p7 : 0 ≤ (x7_1 : Int) := of_decide_eq_true (by first | (with_reducible assumption) | assumption)
                        have q7 : x7_1 < (a0.size : Int) := of_decide_eq_true (by first | (with_reducible assumption) | assumption)
                        have hx7 := bt_at a0 x7_1
                        replace p7 := eq_true p7
                        replace q7 := eq_true q7
                        have p11 : 0 ≤ ((ji8) : Int) := of_decide_eq_true (by first | (with_reducible assumption) | assumption)
                        have q11 : (ji8) < (a1.size : Int) := of_decide_eq_true (by first | (with_reducible assumption) | assumption)
                        have hx11 := bt_at a1 (ji8)
                        replace p11 := eq_true p11
                        replace q11 := eq_true q11
                        go_wp2
                        repeat (go_quiet (fail); try go_wp2)
                        go_ret
                        exact ⟨by first | rfl | (simp; done) | (simp only [← hji8] <;> (first | rfl | simp)) | (simp [*]; done), by repeat (first | exact Drawn0.refl _ | apply Drawn0.step)⟩
                    · rw [if_neg c13] at H
                      have c13b0 : decide ((bt a1 (ji8)) < (bt a0 x7_1)) = false := decide_eq_false c13
                      clear c13
                      by_cases c17 : 65 ≤ (bt a0 x7_1)
                      · rw [if_pos c17] at H
                        have c17b0 : decide (65 ≤ (bt a0 x7_1)) = true := decide_eq_true c17
                        clear c17
                        by_cases c18 : (bt a0 x7_1) ≤ 90
                        · rw [if_pos c18] at H
                          have c18b0 : decide ((bt a0 x7_1) ≤ 90) = true := decide_eq_true c18
                          clear c18
                          by_cases c19 : (bt a1 (ji8)) = (((((bt a0 x7_1) + 97) % 256) - 65) % 256)
                          · rw [if_pos c19] at H
                            have c19b0 : ((bt a1 (ji8)) == (((((bt a0 x7_1) + 97) % 256) - 65) % 256)) = true := beq_iff_eq.mpr c19
                            have c19b1 : ((bt a1 (ji8)) != (((((bt a0 x7_1) + 97) % 256) - 65) % 256)) = false := bne_eq_false_iff_eq.mpr c19
                            clear c19
                            have H' := Aside0.mk H
                            clear H
                            have p7 : 0 ≤ (x7_1 : Int) := of_decide_eq_true (by first | (with_reducible assumption) | assumption)
                            have q7 : x7_1 < (a0.size : Int) := of_decide_eq_true (by first | (with_reducible assumption) | assumption)
                            have hx7 := bt_at a0 x7_1
                            replace p7 := eq_true p7
                            replace q7 := eq_true q7
                            have p11 : 0 ≤ ((ji8) : Int) := of_decide_eq_true (by first | (with_reducible assumption) | assumption)
                            have q11 : (ji8) < (a1.size : Int) := of_decide_eq_true (by first | (with_reducible assumption) | assumption)
                            have hx11 := bt_at a1 (ji8)
                            replace p11 := eq_true p11
                            replace q11 := eq_true q11
                            go_wp2
                            repeat (go_quiet (fail); try go_wp2)
                            go_roundg k1
                            case measure => have := HK1.out; omega
                            case rel => exact ⟨(wrap64 (x7_1 - 1)), (by first | rfl | (simp; done) | (simp [*]; done)), H', ⟨by have := HK1.out; omega⟩, by repeat (first | exact Drawn0.refl _ | apply Drawn0.step)⟩
                          · rw [if_neg c19] at H
                            have c19b0 : ((bt a1 (ji8)) == (((((bt a0 x7_1) + 97) % 256) - 65) % 256)) = false := beq_eq_false_iff_ne.mpr c19
                            have c19b1 : ((bt a1 (ji8)) != (((((bt a0 x7_1) + 97) % 256) - 65) % 256)) = true := bne_iff_ne.mpr c19
                            obtain rfl := Option.some.inj H
                            have p7 : 0 ≤ (x7_1 : Int) := of_decide_eq_true (by first | (with_reducible assumption) | assumption)
                            have q7 : x7_1 < (a0.size : Int) := of_decide_eq_true (by first | (with_reducible assumption) | assumption)
                            have hx7 := bt_at a0 x7_1
                            replace p7 := eq_true p7
                            replace q7 := eq_true q7
                            have p11 : 0 ≤ ((ji8) : Int) := of_decide_eq_true (by first | (with_reducible assumption) | assumption)
                            have q11 : (ji8) < (a1.size : Int) := of_decide_eq_true (by first | (with_reducible assumption) | assumption)
                            have hx11 := bt_at a1 (ji8)
                            replace p11 := eq_true p11
                            replace q11 := eq_true q11
                            go_wp2
                            repeat (go_quiet (fail); try go_wp2)
                            go_ret
                            exact ⟨by first | rfl | (simp; done) | (simp only [← hji8] <;> (first | rfl | simp)) | (simp [*]; done), by repeat (first | exact Drawn0.refl _ | apply Drawn0.step)⟩
                        · rw [if_neg c18] at H
                          have c18b0 : decide ((bt a0 x7_1) ≤ 90) = false := decide_eq_false c18
                          clear c18
                          obtain rfl := Option.some.inj H
                          have p7 : 0 ≤ (x7_1 : Int) := of_decide_eq_true (by first | (with_reducible assumption) | assumption)
                          have q7 : x7_1 < (a0.size : Int) := of_decide_eq_true (by first | (with_reducible assumption) | assumption)
                          have hx7 := bt_at a0 x7_1
                          replace p7 := eq_true p7
                          replace q7 := eq_true q7
                          have p11 : 0 ≤ ((ji8) : Int) := of_decide_eq_true (by first | (with_reducible assumption) | assumption)
                          have q11 : (ji8) < (a1.size : Int) := of_decide_eq_true (by first | (with_reducible assumption) | assumption)
                          have hx11 := bt_at a1 (ji8)
                          replace p11 := eq_true p11
                          replace q11 := eq_true q11
                          go_wp2
                          repeat (go_quiet (fail); try go_wp2)
                          go_ret
                          exact ⟨by first | rfl | (simp; done) | (simp only [← hji8] <;> (first | rfl | simp)) | (simp [*]; done), by repeat (first | exact Drawn0.refl _ | apply Drawn0.step)⟩
                      · rw [if_neg c17] at H
                        have c17b0 : decide (65 ≤ (bt a0 x7_1)) = false := decide_eq_false c17
                        clear c17
                        obtain rfl := Option.some.inj H
                        have p7 : 0 ≤ (x7_1 : Int) := of_decide_eq_true (by first | (with_reducible assumption) | assumption)
                        have q7 : x7_1 < (a0.size : Int) := of_decide_eq_true (by first | (with_reducible assumption) | assumption)
                        have hx7 := bt_at a0 x7_1
                        replace p7 := eq_true p7
                        replace q7 := eq_true q7
                        have p11 : 0 ≤ ((ji8) : Int) := of_decide_eq_true (by first | (with_reducible assumption) | assumption)
                        have q11 : (ji8) < (a1.size : Int) := of_decide_eq_true (by first | (with_reducible assumption) | assumption)
                        have hx11 := bt_at a1 (ji8)
                        replace p11 := eq_true p11
                        replace q11 := eq_true q11
                        go_wp2
                        repeat (go_quiet (fail); try go_wp2)
                        go_ret
                        exact ⟨by first | rfl | (simp; done) | (simp only [← hji8] <;> (first | rfl | simp)) | (simp [*]; done), by repeat (first | exact Drawn0.refl _ | apply Drawn0.step)⟩
                · rw [if_neg c10] at H
                  exact absurd H (by simp)
              · rw [if_neg c9] at H
                exact absurd H (by simp)
            · rw [if_neg c6] at H
              exact absurd H (by simp)
          · rw [if_neg c5] at H
            exact absurd H (by simp)
        · rw [if_neg c4] at H
          have c4b0 : decide (0 ≤ x7_1) = false := decide_eq_false c4
          clear c4
          by_cases c20 : 0 < (a0.size : Int)
          · rw [if_pos c20] at H
            have c20b0 : decide (0 < (a0.size : Int)) = true := decide_eq_true c20
            have c20b1 : decide (0 < a0.size) = true := decide_eq_true (by omega)
            clear c20
            by_cases c22 : (bt a0 0) = 46
            · rw [if_pos c22] at H
              have c22b0 : ((bt a0 0) == 46) = true := beq_iff_eq.mpr c22
              have c22b1 : ((bt a0 0) != 46) = false := bne_eq_false_iff_eq.mpr c22
              clear c22
              obtain rfl := Option.some.inj H
              have p21 : 0 ≤ (0 : Int) := (by omega)
              have q21 : 0 < a0.size := (by have : (0 : Int) < (a0.size : Int) := of_decide_eq_true (by first | (with_reducible assumption) | assumption); omega)
              have hx21 : ∀ h : 0 < a0.size, ((a0[0]'h).toNat : Int) = bt a0 0 := bt_at a0 0
              clear p21
              have qi21 : (0 < (a0.size : Int)) = True := eq_true (of_decide_eq_true (by first | (with_reducible assumption) | assumption))
              replace q21 := eq_true q21
              go_wp2
              repeat (go_quiet (fail); try go_wp2)
              go_ret
              exact ⟨by first | rfl | (simp; done) | (simp [*]; done), by repeat (first | exact Drawn0.refl _ | apply Drawn0.step)⟩
            · rw [if_neg c22] at H
              have c22b0 : ((bt a0 0) == 46) = false := beq_eq_false_iff_ne.mpr c22
              have c22b1 : ((bt a0 0) != 46) = true := bne_iff_ne.mpr c22
              by_cases c23 : (a1.size : Int) > (a0.size : Int)
              · rw [if_pos c23] at H
                have c23b0 : decide ((a0.size : Int) < (a1.size : Int)) = true := decide_eq_true c23
                have c23b1 : decide (a0.size < a1.size) = true := decide_eq_true (Int.ofNat_lt.mp c23)
                clear c23
                obtain ⟨ji24, hji24⟩ : ∃ j_ : Int, (wrap64 ((wrap64 ((a1.size : Int) - (a0.size : Int))) - 1)) = j_ := ⟨_, rfl⟩
                replace H : (if 0 ≤ (ji24) then (if (ji24) < (a1.size : Int) then (if (bt a1 (ji24)) = 46 then (some true) else (some false)) else (none)) else (none)) = some r := by first | (rw [hji24] at H; exact H) | (simp only [hji24] at H ⊢; exact H)
                have hji24w : (IntKind.i64.wrap ((wrap64 ((a1.size : Int) - (a0.size : Int))) - 1)) = ji24 := (i64_w _).trans hji24
                by_cases c25 : 0 ≤ (ji24)
                · rw [if_pos c25] at H
                  have c25b0 : decide (0 ≤ (ji24)) = true := decide_eq_true c25
                  clear c25
                  by_cases c26 : (ji24) < (a1.size : Int)
                  · rw [if_pos c26] at H
                    have c26b0 : decide ((ji24) < (a1.size : Int)) = true := decide_eq_true c26
                    clear c26
                    by_cases c28 : (bt a1 (ji24)) = 46
                    · rw [if_pos c28] at H
                      have c28b0 : ((bt a1 (ji24)) == 46) = true := beq_iff_eq.mpr c28
                      have c28b1 : ((bt a1 (ji24)) != 46) = false := bne_eq_false_iff_eq.mpr c28
                      clear c28
                      obtain rfl := Option.some.inj H
                      have p21 : 0 ≤ (0 : Int) := (by omega)
                      have q21 : 0 < a0.size := (by have : (0 : Int) < (a0.size : Int) := of_decide_eq_true (by first | (with_reducible assumption) | assumption); omega)
                      have hx21 : ∀ h : 0 < a0.size, ((a0[0]'h).toNat : Int) = bt a0 0 := bt_at a0 0
                      clear p21
                      have qi21 : (0 < (a0.size : Int)) = True := eq_true (of_decide_eq_true (by first | (with_reducible assumption) | assumption))
                      replace q21 := eq_true q21
                      have p27 : 0 ≤ ((ji24) : Int) := of_decide_eq_true (by first | (with_reducible assumption) | assumption)
                      have q27 : (ji24) < (a1.size : Int) := of_decide_eq_true (by first | (with_reducible assumption) | assumption)
                      have hx27 := bt_at a1 (ji24)
                      replace p27 := eq_true p27
                      replace q27 := eq_true q27
                      go_wp2
                      repeat (go_quiet (fail); try go_wp2)
                      go_ret
                      exact ⟨by first | rfl | (simp; done) | (simp only [← hji24] <;> (first | rfl | simp)) | (simp [*]; done), by repeat (first | exact Drawn0.refl _ | apply Drawn0.step)⟩
                    · rw [if_neg c28] at H
                      have c28b0 : ((bt a1 (ji24)) == 46) = false := beq_eq_false_iff_ne.mpr c28
                      have c28b1 : ((bt a1 (ji24)) != 46) = true := bne_iff_ne.mpr c28
                      obtain rfl := Option.some.inj H
                      have p21 : 0 ≤ (0 : Int) := (by omega)
                      have q21 : 0 < a0.size := (by have : (0 : Int) < (a0.size : Int) := of_decide_eq_true (by first | (with_reducible assumption) | assumption); omega)
                      have hx21 : ∀ h : 0 < a0.size, ((a0[0]'h).toNat : Int) = bt a0 0 := bt_at a0 0
                      clear p21
                      have qi21 : (0 < (a0.size : Int)) = True := eq_true (of_decide_eq_true (by first | (with_reducible assumption) | assumption))
                      replace q21 := eq_true q21
                      have p27 : 0 ≤ ((ji24) : Int) := of_decide_eq_true (by first | (with_reducible assumption) | assumption)
                      have q27 : (ji24) < (a1.size : Int) := of_decide_eq_true (by first | (with_reducible assumption) | assumption)
                      have hx27 := bt_at a1 (ji24)
                      replace p27 := eq_true p27
                      replace q27 := eq_true q27
                      go_wp2
                      repeat (go_quiet (fail); try go_wp2)
                      go_ret
                      exact ⟨by first | rfl | (simp; done) | (simp only [← hji24] <;> (first | rfl | simp)) | (simp [*]; done), by repeat (first | exact Drawn0.refl _ | apply Drawn0.step)⟩
                  · rw [if_neg c26] at H
                    exact absurd H (by simp)
                · rw [if_neg c25] at H
                  exact absurd H (by simp)
              · rw [if_neg c23] at H
                have c23b0 : decide ((a0.size : Int) < (a1.size : Int)) = false := decide_eq_false c23
                have c23b1 : decide (a0.size < a1.size) = false := decide_eq_false (fun h => c23 (Int.ofNat_lt.mpr h))
                clear c23
                obtain rfl := Option.some.inj H
                have p21 : 0 ≤ (0 : Int) := (by omega)
                have q21 : 0 < a0.size := (by have : (0 : Int) < (a0.size : Int) := of_decide_eq_true (by first | (with_reducible assumption) | assumption); omega)
                have hx21 : ∀ h : 0 < a0.size, ((a0[0]'h).toNat : Int) = bt a0 0 := bt_at a0 0
                clear p21
                have qi21 : (0 < (a0.size : Int)) = True := eq_true (of_decide_eq_true (by first | (with_reducible assumption) | assumption))
                replace q21 := eq_true q21
                go_wp2
                repeat (go_quiet (fail); try go_wp2)
                go_ret
                exact ⟨by first | rfl | (simp; done) | (simp [*]; done), by repeat (first | exact Drawn0.refl _ | apply Drawn0.step)⟩
          · rw [if_neg c20] at H
            exact absurd H (by simp)

-- NOT PRINTED: function 41 (nameconstraints_trimFirstLabel)

-- NOT PRINTED: function 28 (nameconstraints_newDNSConstraints)

-- NOT PRINTED: function 42 (netparts_IP)

end Go.Proofs.YtbnelehiieglbaaGreatDoor.PFnCheckURI
