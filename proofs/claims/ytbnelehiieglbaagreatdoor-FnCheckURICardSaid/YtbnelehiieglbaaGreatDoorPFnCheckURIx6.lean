-- PRINTED BY print.sh 35421559b90ae4d0a3588c463048766b98c2df88dd9212a6774a882060cdf62d: not written by this session
import Derived.Test.YtbnelehiieglbaaGreatDoorPFnCheckURIx0
namespace Go.Proofs.YtbnelehiieglbaaGreatDoor.PFnCheckURI
open Go.RowKit Go.Proofs.YtbnelehiieglbaaGreatDoorW.PrintWords Go.Proofs.YtbnelehiieglbaaGreatDoorW.PrintLast Go.Proofs.YtbnelehiieglbaaGreatDoorW.PrintMore
attribute [local go_sem] max2_int min2_int max_two min_two max_three min_three max_four min_four   -- for this text's walks alone
set_option linter.unusedVariables false
set_option linter.unusedSimpArgs false

/-! ### nameconstraints_domainNameValid: function 43 -/
mutual
def nameconstraints_domainNameValid.j0 : Nat → ByteArray → Int → Bool → Option (Bool)
  | 0, _, _, _ => none
  | k + 1, x0, x5, x22 => if x22 = true then (if 1 ≤ (x0.size : Int) then (nameconstraints_domainNameValid.j1 k (x0.extract 1 x0.size) x5) else (none)) else (nameconstraints_domainNameValid.j1 k x0 x5)
def nameconstraints_domainNameValid.j1 : Nat → ByteArray → Int → Option (Bool)
  | 0, _, _ => none
  | k + 1, x0, x5 => nameconstraints_domainNameValid.l0 k x0 x5 0
def nameconstraints_domainNameValid.l0 : Nat → ByteArray → Int → Int → Option (Bool)
  | 0, _, _, _ => none
  | k + 1, x0, x5, x6 => if x6 ≤ (x0.size : Int) then (if x6 < (x0.size : Int) then (if 0 ≤ x6 then (if (bt x0 x6) < 33 then (nameconstraints_domainNameValid.j3 k x0 x5 x6 true) else (nameconstraints_domainNameValid.j3 k x0 x5 x6 (decide ((bt x0 x6) > 126)))) else (none)) else (nameconstraints_domainNameValid.j3 k x0 x5 x6 false)) else (some true)
def nameconstraints_domainNameValid.j3 : Nat → ByteArray → Int → Int → Bool → Option (Bool)
  | 0, _, _, _, _ => none
  | k + 1, x0, x5, x6, x46 => if x46 = true then (some false) else (if x6 = (x0.size : Int) then (nameconstraints_domainNameValid.j4 k x0 x5 x6 true) else (if 0 ≤ x6 then (if x6 < (x0.size : Int) then (nameconstraints_domainNameValid.j4 k x0 x5 x6 ((bt x0 x6) == 46)) else (none)) else (none)))
def nameconstraints_domainNameValid.j4 : Nat → ByteArray → Int → Int → Bool → Option (Bool)
  | 0, _, _, _, _ => none
  | k + 1, x0, x5, x6, x56 => if x56 = true then (if x5 ≥ 0 then (if (wrap64 (x6 - (wrap64 (x5 + 1)))) = 0 then (some false) else (nameconstraints_domainNameValid.l0 k x0 x6 (wrap64 (x6 + 1)))) else (if x6 = 0 then (some false) else (nameconstraints_domainNameValid.l0 k x0 x6 (wrap64 (x6 + 1))))) else (nameconstraints_domainNameValid.l0 k x0 x5 (wrap64 (x6 + 1)))
end
def nameconstraints_domainNameValid.f (k : Nat) (a0 : ByteArray) (a1 : Bool) : Option (Bool) := if (a0.size : Int) = 0 then (some true) else (if 0 ≤ (wrap64 ((a0.size : Int) - 1)) then (if (wrap64 ((a0.size : Int) - 1)) < (a0.size : Int) then (if (bt a0 (wrap64 ((a0.size : Int) - 1))) = 46 then (some false) else (if a1 = true then (if 0 < (a0.size : Int) then (nameconstraints_domainNameValid.j0 k a0 (-1) ((bt a0 0) == 46)) else (none)) else (nameconstraints_domainNameValid.j0 k a0 (-1) false))) else (none)) else (none))
theorem nameconstraints_domainNameValid.mono_l : ∀ k, (∀ y0 y1 y2, LeO (nameconstraints_domainNameValid.j0 k y0 y1 y2) (nameconstraints_domainNameValid.j0 (k + 1) y0 y1 y2)) ∧ (∀ y0 y1, LeO (nameconstraints_domainNameValid.j1 k y0 y1) (nameconstraints_domainNameValid.j1 (k + 1) y0 y1)) ∧ (∀ y0 y1 y2, LeO (nameconstraints_domainNameValid.l0 k y0 y1 y2) (nameconstraints_domainNameValid.l0 (k + 1) y0 y1 y2)) ∧ (∀ y0 y1 y2 y3, LeO (nameconstraints_domainNameValid.j3 k y0 y1 y2 y3) (nameconstraints_domainNameValid.j3 (k + 1) y0 y1 y2 y3)) ∧ (∀ y0 y1 y2 y3, LeO (nameconstraints_domainNameValid.j4 k y0 y1 y2 y3) (nameconstraints_domainNameValid.j4 (k + 1) y0 y1 y2 y3))
  | 0 => ⟨fun _ _ _ r h => by simp [nameconstraints_domainNameValid.j0] at h, fun _ _ r h => by simp [nameconstraints_domainNameValid.j1] at h, fun _ _ _ r h => by simp [nameconstraints_domainNameValid.l0] at h, fun _ _ _ _ r h => by simp [nameconstraints_domainNameValid.j3] at h, fun _ _ _ _ r h => by simp [nameconstraints_domainNameValid.j4] at h⟩
  | k + 1 => by
    obtain ⟨ih0, ih1, ih2, ih3, ih4⟩ := nameconstraints_domainNameValid.mono_l k
    refine ⟨?_, ?_, ?_, ?_, ?_⟩
    · intro y0 y1 y2
      unfold nameconstraints_domainNameValid.j0
      repeat' first
      | (with_reducible exact ih0 _ _ _)
      | (with_reducible exact ih1 _ _)
      | (with_reducible exact ih2 _ _ _)
      | (with_reducible exact ih3 _ _ _ _)
      | (with_reducible exact ih4 _ _ _ _)
      | (with_reducible exact LeO.refl _)
      | (with_reducible exact LeO.none _)
      | (with_reducible refine LeO.ite ?_ ?_)
      | (with_reducible refine LeO.bind ?_ (fun _ => ?_))
      | exact ih0 _ _ _
      | exact ih1 _ _
      | exact ih2 _ _ _
      | exact ih3 _ _ _ _
      | exact ih4 _ _ _ _
      | exact LeO.none _
      | refine LeO.ite ?_ ?_
      | refine LeO.bind ?_ (fun _ => ?_)
    · intro y0 y1
      unfold nameconstraints_domainNameValid.j1
      repeat' first
      | (with_reducible exact ih0 _ _ _)
      | (with_reducible exact ih1 _ _)
      | (with_reducible exact ih2 _ _ _)
      | (with_reducible exact ih3 _ _ _ _)
      | (with_reducible exact ih4 _ _ _ _)
      | (with_reducible exact LeO.refl _)
      | (with_reducible exact LeO.none _)
      | (with_reducible refine LeO.ite ?_ ?_)
      | (with_reducible refine LeO.bind ?_ (fun _ => ?_))
      | exact ih0 _ _ _
      | exact ih1 _ _
      | exact ih2 _ _ _
      | exact ih3 _ _ _ _
      | exact ih4 _ _ _ _
      | exact LeO.none _
      | refine LeO.ite ?_ ?_
      | refine LeO.bind ?_ (fun _ => ?_)
    · intro y0 y1 y2
      unfold nameconstraints_domainNameValid.l0
      repeat' first
      | (with_reducible exact ih0 _ _ _)
      | (with_reducible exact ih1 _ _)
      | (with_reducible exact ih2 _ _ _)
      | (with_reducible exact ih3 _ _ _ _)
      | (with_reducible exact ih4 _ _ _ _)
      | (with_reducible exact LeO.refl _)
      | (with_reducible exact LeO.none _)
      | (with_reducible refine LeO.ite ?_ ?_)
      | (with_reducible refine LeO.bind ?_ (fun _ => ?_))
      | exact ih0 _ _ _
      | exact ih1 _ _
      | exact ih2 _ _ _
      | exact ih3 _ _ _ _
      | exact ih4 _ _ _ _
      | exact LeO.none _
      | refine LeO.ite ?_ ?_
      | refine LeO.bind ?_ (fun _ => ?_)
    · intro y0 y1 y2 y3
      unfold nameconstraints_domainNameValid.j3
      repeat' first
      | (with_reducible exact ih0 _ _ _)
      | (with_reducible exact ih1 _ _)
      | (with_reducible exact ih2 _ _ _)
      | (with_reducible exact ih3 _ _ _ _)
      | (with_reducible exact ih4 _ _ _ _)
      | (with_reducible exact LeO.refl _)
      | (with_reducible exact LeO.none _)
      | (with_reducible refine LeO.ite ?_ ?_)
      | (with_reducible refine LeO.bind ?_ (fun _ => ?_))
      | exact ih0 _ _ _
      | exact ih1 _ _
      | exact ih2 _ _ _
      | exact ih3 _ _ _ _
      | exact ih4 _ _ _ _
      | exact LeO.none _
      | refine LeO.ite ?_ ?_
      | refine LeO.bind ?_ (fun _ => ?_)
    · intro y0 y1 y2 y3
      unfold nameconstraints_domainNameValid.j4
      repeat' first
      | (with_reducible exact ih0 _ _ _)
      | (with_reducible exact ih1 _ _)
      | (with_reducible exact ih2 _ _ _)
      | (with_reducible exact ih3 _ _ _ _)
      | (with_reducible exact ih4 _ _ _ _)
      | (with_reducible exact LeO.refl _)
      | (with_reducible exact LeO.none _)
      | (with_reducible refine LeO.ite ?_ ?_)
      | (with_reducible refine LeO.bind ?_ (fun _ => ?_))
      | exact ih0 _ _ _
      | exact ih1 _ _
      | exact ih2 _ _ _
      | exact ih3 _ _ _ _
      | exact ih4 _ _ _ _
      | exact LeO.none _
      | refine LeO.ite ?_ ?_
      | refine LeO.bind ?_ (fun _ => ?_)
theorem nameconstraints_domainNameValid.mono : ∀ a0 a1 k, LeO (nameconstraints_domainNameValid.f k a0 a1) (nameconstraints_domainNameValid.f (k + 1) a0 a1) := by
  intro a0 a1 k
  obtain ⟨ih0, ih1, ih2, ih3, ih4⟩ := nameconstraints_domainNameValid.mono_l k
  unfold nameconstraints_domainNameValid.f
  repeat' first
      | (with_reducible exact ih0 _ _ _)
      | (with_reducible exact ih1 _ _)
      | (with_reducible exact ih2 _ _ _)
      | (with_reducible exact ih3 _ _ _ _)
      | (with_reducible exact ih4 _ _ _ _)
      | (with_reducible exact LeO.refl _)
      | (with_reducible exact LeO.none _)
      | (with_reducible refine LeO.ite ?_ ?_)
      | (with_reducible refine LeO.bind ?_ (fun _ => ?_))
      | exact ih0 _ _ _
      | exact ih1 _ _
      | exact ih2 _ _ _
      | exact ih3 _ _ _ _
      | exact ih4 _ _ _ _
      | exact LeO.none _
      | refine LeO.ite ?_ ?_
      | refine LeO.bind ?_ (fun _ => ?_)
set_option maxHeartbeats 8000000 in
set_option maxRecDepth 100000 in
theorem nameconstraints_domainNameValid.calls (k : Nat) (a0 : ByteArray) (a1 : Bool) (r : Bool) (w : World) (h : nameconstraints_domainNameValid.f k a0 a1 = some r) :
    Calls Tryz.prog 43 #[.string a0, .bool a1] w fun e w' => e = .returned (.bool r) ∧ Drawn0 w w' := by
  have H : (if (a0.size : Int) = 0 then (some true) else (if 0 ≤ (wrap64 ((a0.size : Int) - 1)) then (if (wrap64 ((a0.size : Int) - 1)) < (a0.size : Int) then (if (bt a0 (wrap64 ((a0.size : Int) - 1))) = 46 then (some false) else (if a1 = true then (if 0 < (a0.size : Int) then (nameconstraints_domainNameValid.j0 k a0 (-1) ((bt a0 0) == 46)) else (none)) else (nameconstraints_domainNameValid.j0 k a0 (-1) false))) else (none)) else (none))) = some r := h
  clear h
  by_cases c3 : (a0.size : Int) = 0
  · rw [if_pos c3] at H
    have c3b0 : ((a0.size : Int) == 0) = true := beq_iff_eq.mpr c3
    have c3b1 : ((a0.size : Int) != 0) = false := bne_eq_false_iff_eq.mpr c3
    clear c3
    obtain rfl := Option.some.inj H
    go_enter Tryz.func43, Tryz.ntmps43
    go_wp2
    go_ret
    exact ⟨by first | rfl | (simp; done) | (simp [*]; done), by repeat (first | exact Drawn0.refl _ | apply Drawn0.step)⟩
  · rw [if_neg c3] at H
    have c3b0 : ((a0.size : Int) == 0) = false := beq_eq_false_iff_ne.mpr c3
    have c3b1 : ((a0.size : Int) != 0) = true := bne_iff_ne.mpr c3
    obtain ⟨ji4, hji4⟩ : ∃ j_ : Int, (wrap64 ((a0.size : Int) - 1)) = j_ := ⟨_, rfl⟩
    replace H : (if 0 ≤ (ji4) then (if (ji4) < (a0.size : Int) then (if (bt a0 (ji4)) = 46 then (some false) else (if a1 = true then (if 0 < (a0.size : Int) then (nameconstraints_domainNameValid.j0 k a0 (-1) ((bt a0 0) == 46)) else (none)) else (nameconstraints_domainNameValid.j0 k a0 (-1) false))) else (none)) else (none)) = some r := by first | (rw [hji4] at H; exact H) | (simp only [hji4] at H ⊢; exact H)
    have hji4w : (IntKind.i64.wrap ((a0.size : Int) - 1)) = ji4 := (i64_w _).trans hji4
    by_cases c5 : 0 ≤ (ji4)
    · rw [if_pos c5] at H
      have c5b0 : decide (0 ≤ (ji4)) = true := decide_eq_true c5
      clear c5
      by_cases c6 : (ji4) < (a0.size : Int)
      · rw [if_pos c6] at H
        have c6b0 : decide ((ji4) < (a0.size : Int)) = true := decide_eq_true c6
        clear c6
        by_cases c8 : (bt a0 (ji4)) = 46
        · rw [if_pos c8] at H
          have c8b0 : ((bt a0 (ji4)) == 46) = true := beq_iff_eq.mpr c8
          have c8b1 : ((bt a0 (ji4)) != 46) = false := bne_eq_false_iff_eq.mpr c8
          clear c8
          obtain rfl := Option.some.inj H
          have p7 : 0 ≤ ((ji4) : Int) := of_decide_eq_true (by first | (with_reducible assumption) | assumption)
          have q7 : (ji4) < (a0.size : Int) := of_decide_eq_true (by first | (with_reducible assumption) | assumption)
          have hx7 := bt_at a0 (ji4)
          replace p7 := eq_true p7
          replace q7 := eq_true q7
          go_enter Tryz.func43, Tryz.ntmps43
          go_wp2
          go_ret
          exact ⟨by first | rfl | (simp; done) | (simp only [← hji4] <;> (first | rfl | simp)) | (simp [*]; done), by repeat (first | exact Drawn0.refl _ | apply Drawn0.step)⟩
        · rw [if_neg c8] at H
          have c8b0 : ((bt a0 (ji4)) == 46) = false := beq_eq_false_iff_ne.mpr c8
          have c8b1 : ((bt a0 (ji4)) != 46) = true := bne_iff_ne.mpr c8
          have HC9 := Aside0.mk H
          clear H
          have p7 : 0 ≤ ((ji4) : Int) := of_decide_eq_true (by first | (with_reducible assumption) | assumption)
          have q7 : (ji4) < (a0.size : Int) := of_decide_eq_true (by first | (with_reducible assumption) | assumption)
          have hx7 := bt_at a0 (ji4)
          replace p7 := eq_true p7
          replace q7 := eq_true q7
          go_enter Tryz.func43, Tryz.ntmps43
          go_upto_region 6 with (fail)
          go_cut [22] (fun v22 wc => ∃ (kq : Nat) (x22_8 : Bool), v22 = .bool x22_8 ∧ Aside0 (nameconstraints_domainNameValid.j0 kq a0 (-1) x22_8 = some r) ∧ Aside0 (kq ≤ k) ∧ Drawn0 w wc)
          case first =>
            have H := HC9.out
            clear HC9
            by_cases c10 : a1 = true
            · subst c10
              have H1 : (if 0 < (a0.size : Int) then (nameconstraints_domainNameValid.j0 k a0 (-1) ((bt a0 0) == 46)) else (none)) = some r := by rw [if_pos rfl] at H; exact H
              clear H
              have H := H1
              clear H1
              by_cases c11 : 0 < (a0.size : Int)
              · rw [if_pos c11] at H
                have c11b0 : decide (0 < (a0.size : Int)) = true := decide_eq_true c11
                have c11b1 : decide (0 < a0.size) = true := decide_eq_true (by omega)
                clear c11
                (first | rw [c11b0] | (simp only [i64_w, i32_w]; rw [c11b0]) | skip)
                have H' := Aside0.mk H
                clear H
                have p12 : 0 ≤ (0 : Int) := (by omega)
                have q12 : 0 < a0.size := (by have : (0 : Int) < (a0.size : Int) := of_decide_eq_true (by first | (with_reducible assumption) | assumption); omega)
                have hx12 : ∀ h : 0 < a0.size, ((a0[0]'h).toNat : Int) = bt a0 0 := bt_at a0 0
                clear p12
                have qi12 : (0 < (a0.size : Int)) = True := eq_true (of_decide_eq_true (by first | (with_reducible assumption) | assumption))
                replace q12 := eq_true q12
                go_wp2
                go_meet
                case rel => exact ⟨_, (((bt a0 0) == 46)), (by first | rfl | (simp; done) | (simp [*]; done)), H', ⟨by first | omega | exact Nat.le_refl _⟩, by repeat (first | exact Drawn0.refl _ | apply Drawn0.step)⟩
              · rw [if_neg c11] at H
                exact absurd H (by simp)
            · replace c10 := Bool.eq_false_iff.mpr c10
              subst c10
              have H1 : (nameconstraints_domainNameValid.j0 k a0 (-1) false) = some r := by rw [if_neg (show ¬ (false = true) by decide)] at H; exact H
              clear H
              have H := H1
              clear H1
              have H' := Aside0.mk H
              clear H
              go_wp2
              go_meet
              case rel => exact ⟨_, (false), (by first | rfl | (simp; done) | (simp [*]; done)), H', ⟨by first | omega | exact Nat.le_refl _⟩, by repeat (first | exact Drawn0.refl _ | apply Drawn0.step)⟩
          case rest =>
            clear HC9
            try clear c1
            try clear p1
            try clear q1
            try clear hx1
            try clear qi1
            try clear p2
            try clear c3
            try clear c3b0
            try clear c3b1
            try clear c4
            try clear c5
            try clear c5b0
            try clear c6
            try clear c6b0
            try clear p6
            try clear p7
            try clear q7
            try clear hx7
            try clear c8
            try clear c8b0
            try clear c8b1
            try clear c10
            try clear c11
            try clear c11b0
            try clear c11b1
            try clear p12
            try clear q12
            try clear hx12
            try clear qi12
            try clear p12
            try clear p7
            try clear q12
            try clear q7
            obtain ⟨kq, x22_8, rfl, HA, HJ8, ⟨mc8, rfl⟩⟩ := hcut
            cases kq with
            | zero => exact absurd HA.out (by simp [nameconstraints_domainNameValid.j0])
            | succ kj8 =>
              have H := HA.out
              clear HA
              simp only [nameconstraints_domainNameValid.j0] at H
              have HC13 := Aside0.mk H
              clear H
              go_upto_if 22 with (fail)
              go_cut [0] (fun v0 wc => ∃ (kq : Nat) (x0_12 : ByteArray), v0 = .string x0_12 ∧ Aside0 (nameconstraints_domainNameValid.j1 kq x0_12 (-1) = some r) ∧ Aside0 (kq ≤ kj8) ∧ Drawn0 w wc)
              case first =>
                have H := HC13.out
                clear HC13
                by_cases c14 : x22_8 = true
                · subst c14
                  have H1 : (if 1 ≤ (a0.size : Int) then (nameconstraints_domainNameValid.j1 kj8 (a0.extract 1 a0.size) (-1)) else (none)) = some r := by rw [if_pos rfl] at H; exact H
                  clear H
                  have H := H1
                  clear H1
                  by_cases c15 : 1 ≤ (a0.size : Int)
                  · rw [if_pos c15] at H
                    have c15b0 := eq_true c15
                    have c15b1 : decide (1 ≤ (a0.size : Int)) = true := decide_eq_true c15
                    clear c15
                    have H' := Aside0.mk H
                    clear H
                    go_wp2
                    go_meet
                    case rel => exact ⟨_, (a0.extract 1 a0.size), (by first | rfl | (simp; done) | (simp [*]; done)), H', ⟨by have := HJ8.out; first | omega | exact Nat.le_refl _⟩, by repeat (first | exact Drawn0.refl _ | apply Drawn0.step)⟩
                  · rw [if_neg c15] at H
                    exact absurd H (by simp)
                · replace c14 := Bool.eq_false_iff.mpr c14
                  subst c14
                  have H1 : (nameconstraints_domainNameValid.j1 kj8 a0 (-1)) = some r := by rw [if_neg (show ¬ (false = true) by decide)] at H; exact H
                  clear H
                  have H := H1
                  clear H1
                  have H' := Aside0.mk H
                  clear H
                  go_wp2
                  go_meet
                  case rel => exact ⟨_, (a0), (by first | rfl | (simp; done) | (simp [*]; done)), H', ⟨by have := HJ8.out; first | omega | exact Nat.le_refl _⟩, by repeat (first | exact Drawn0.refl _ | apply Drawn0.step)⟩
              case rest =>
                clear HC13
                try clear c1
                try clear p1
                try clear q1
                try clear hx1
                try clear qi1
                try clear p2
                try clear c3
                try clear c3b0
                try clear c3b1
                try clear c4
                try clear c5
                try clear c5b0
                try clear c6
                try clear c6b0
                try clear p6
                try clear p7
                try clear q7
                try clear hx7
                try clear c8
                try clear c8b0
                try clear c8b1
                try clear c10
                try clear c11
                try clear c11b0
                try clear c11b1
                try clear p12
                try clear q12
                try clear hx12
                try clear qi12
                try clear c14
                try clear c15
                try clear c15b0
                try clear c15b1
                try clear p1
                try clear p12
                try clear p2
                try clear p6
                try clear p7
                try clear q1
                try clear q12
                try clear q7
                obtain ⟨kq, x0_12, rfl, HA, HJ12, ⟨mc12, rfl⟩⟩ := hcut
                cases kq with
                | zero => exact absurd HA.out (by simp [nameconstraints_domainNameValid.j1])
                | succ kj12 =>
                  have H := HA.out
                  clear HA
                  simp only [nameconstraints_domainNameValid.j1] at H
                  have H' := Aside0.mk H
                  clear H
                  go_wp2
                  go_loopg [5, 6] kj12 (fun kq v5 v6 w' => ∃ (x5_3 : Int) (x6_3 : Int), v5 = .int .i64 x5_3 ∧ v6 = .int .i64 x6_3 ∧ Aside0 (nameconstraints_domainNameValid.l0 kq x0_12 x5_3 x6_3 = some r) ∧ Aside0 (kq ≤ kj12) ∧ Drawn0 w w')
                  case atStart => exact ⟨((-1)), (0), (by first | rfl | (simp; done) | (simp [*]; done)), (by first | rfl | (simp; done) | (simp [*]; done)), H', ⟨Nat.le_refl _⟩, by repeat (first | exact Drawn0.refl _ | apply Drawn0.step)⟩
                  case round =>
                    clear H'
                    try clear c1
                    try clear p1
                    try clear q1
                    try clear hx1
                    try clear qi1
                    try clear p2
                    try clear c3
                    try clear c3b0
                    try clear c3b1
                    try clear c4
                    try clear c5
                    try clear c5b0
                    try clear c6
                    try clear c6b0
                    try clear p6
                    try clear p7
                    try clear q7
                    try clear hx7
                    try clear c8
                    try clear c8b0
                    try clear c8b1
                    try clear c10
                    try clear c11
                    try clear c11b0
                    try clear c11b1
                    try clear c12
                    try clear p12
                    try clear q12
                    try clear hx12
                    try clear qi12
                    try clear c14
                    try clear c15
                    try clear c15b0
                    try clear c15b1
                    try clear p1
                    try clear p12
                    try clear p2
                    try clear p6
                    try clear p7
                    try clear q1
                    try clear q12
                    try clear q7
                    obtain ⟨x5_3, x6_3, rfl, rfl, HA, HK3, ⟨m3, rfl⟩⟩ := hrel
                    cases gk with
                    | zero => exact absurd HA.out (by simp [nameconstraints_domainNameValid.l0])
                    | succ k3 =>
                      have H := HA.out
                      clear HA
                      simp only [nameconstraints_domainNameValid.l0] at H
                      by_cases c16 : x6_3 ≤ (x0_12.size : Int)
                      · rw [if_pos c16] at H
                        have c16b0 : decide (x6_3 ≤ (x0_12.size : Int)) = true := decide_eq_true c16
                        clear c16
                        have HC17 := Aside0.mk H
                        clear H
                        go_upto_region 11 with (fail)
                        go_cut [46] (fun v46 wc => ∃ (kq : Nat) (x46_16 : Bool), v46 = .bool x46_16 ∧ Aside0 (nameconstraints_domainNameValid.j3 kq x0_12 x5_3 x6_3 x46_16 = some r) ∧ Aside0 (kq ≤ k3) ∧ Drawn0 w wc)
                        case first =>
                          have H := HC17.out
                          clear HC17
                          by_cases c18 : x6_3 < (x0_12.size : Int)
                          · rw [if_pos c18] at H
                            have c18b0 : decide (x6_3 < (x0_12.size : Int)) = true := decide_eq_true c18
                            clear c18
                            (first | rw [c18b0] | (simp only [i64_w, i32_w]; rw [c18b0]) | skip)
                            by_cases c19 : 0 ≤ x6_3
                            · rw [if_pos c19] at H
                              have c19b0 : decide (0 ≤ x6_3) = true := decide_eq_true c19
                              clear c19
                              by_cases c21 : (bt x0_12 x6_3) < 33
                              · rw [if_pos c21] at H
                                have c21b0 : decide ((bt x0_12 x6_3) < 33) = true := decide_eq_true c21
                                clear c21
                                have H' := Aside0.mk H
                                clear H
                                have p20 : 0 ≤ (x6_3 : Int) := of_decide_eq_true (by first | (with_reducible assumption) | assumption)
                                have q20 : x6_3 < (x0_12.size : Int) := of_decide_eq_true (by first | (with_reducible assumption) | assumption)
                                have hx20 := bt_at x0_12 x6_3
                                replace p20 := eq_true p20
                                replace q20 := eq_true q20
                                go_wp2
                                go_meet
                                case rel => exact ⟨_, (true), (by first | rfl | (simp; done) | (simp [*]; done)), H', ⟨by have := HJ8.out; have := HJ12.out; have := HK3.out; first | omega | exact Nat.le_refl _⟩, by repeat (first | exact Drawn0.refl _ | apply Drawn0.step)⟩
                              · rw [if_neg c21] at H
                                have c21b0 : decide ((bt x0_12 x6_3) < 33) = false := decide_eq_false c21
                                clear c21
                                have H' := Aside0.mk H
                                clear H
                                have p20 : 0 ≤ (x6_3 : Int) := of_decide_eq_true (by first | (with_reducible assumption) | assumption)
                                have q20 : x6_3 < (x0_12.size : Int) := of_decide_eq_true (by first | (with_reducible assumption) | assumption)
                                have hx20 := bt_at x0_12 x6_3
                                replace p20 := eq_true p20
                                replace q20 := eq_true q20
                                have p22 : 0 ≤ (x6_3 : Int) := of_decide_eq_true (by first | (with_reducible assumption) | assumption)
                                have q22 : x6_3 < (x0_12.size : Int) := of_decide_eq_true (by first | (with_reducible assumption) | assumption)
                                have hx22 := bt_at x0_12 x6_3
                                replace p22 := eq_true p22
                                replace q22 := eq_true q22
                                go_wp2
                                go_meet
                                case rel => exact ⟨_, (decide ((bt x0_12 x6_3) > 126)), (by first | rfl | (simp; done) | (simp [*]; done)), H', ⟨by have := HJ8.out; have := HJ12.out; have := HK3.out; first | omega | exact Nat.le_refl _⟩, by repeat (first | exact Drawn0.refl _ | apply Drawn0.step)⟩
                            · rw [if_neg c19] at H
                              exact absurd H (by simp)
                          · rw [if_neg c18] at H
                            have c18b0 : decide (x6_3 < (x0_12.size : Int)) = false := decide_eq_false c18
                            clear c18
                            (first | rw [c18b0] | (simp only [i64_w, i32_w]; rw [c18b0]) | skip)
                            have H' := Aside0.mk H
                            clear H
                            go_wp2
                            go_meet
                            case rel => exact ⟨_, (false), (by first | rfl | (simp; done) | (simp [*]; done)), H', ⟨by have := HJ8.out; have := HJ12.out; have := HK3.out; first | omega | exact Nat.le_refl _⟩, by repeat (first | exact Drawn0.refl _ | apply Drawn0.step)⟩
                        case rest =>
                          clear HC17
                          try clear c1
                          try clear p1
                          try clear q1
                          try clear hx1
                          try clear qi1
                          try clear c2
                          try clear p2
                          try clear q2
                          try clear hx2
                          try clear c3
                          try clear c3b0
                          try clear c3b1
                          try clear c4
                          try clear c5
                          try clear c5b0
                          try clear c6
                          try clear c6b0
                          try clear p6
                          try clear p7
                          try clear q7
                          try clear hx7
                          try clear c8
                          try clear c8b0
                          try clear c8b1
                          try clear c10
                          try clear c11
                          try clear c11b0
                          try clear c11b1
                          try clear c12
                          try clear p12
                          try clear q12
                          try clear hx12
                          try clear qi12
                          try clear c14
                          try clear c15
                          try clear c15b0
                          try clear c15b1
                          try clear c16
                          try clear c16b0
                          try clear c18
                          try clear c18b0
                          try clear c19
                          try clear c19b0
                          try clear p20
                          try clear q20
                          try clear hx20
                          try clear c21
                          try clear c21b0
                          try clear p22
                          try clear q22
                          try clear hx22
                          try clear p1
                          try clear p12
                          try clear p2
                          try clear p20
                          try clear p22
                          try clear p6
                          try clear p7
                          try clear q1
                          try clear q12
                          try clear q20
                          try clear q22
                          try clear q7
                          obtain ⟨kq, x46_16, rfl, HA, HJ16, ⟨mc16, rfl⟩⟩ := hcut
                          cases kq with
                          | zero => exact absurd HA.out (by simp [nameconstraints_domainNameValid.j3])
                          | succ kj16 =>
                            have H := HA.out
                            clear HA
                            simp only [nameconstraints_domainNameValid.j3] at H
                            by_cases c23 : x46_16 = true
                            · subst c23
                              have H1 : (some false) = some r := by rw [if_pos rfl] at H; exact H
                              clear H
                              have H := H1
                              clear H1
                              obtain rfl := Option.some.inj H
                              go_wp2
                              go_ret
                              exact ⟨by first | rfl | (simp; done) | (simp only [← hji4] <;> (first | rfl | simp)) | (simp [*]; done), by repeat (first | exact Drawn0.refl _ | apply Drawn0.step)⟩
                            · replace c23 := Bool.eq_false_iff.mpr c23
                              subst c23
                              have H1 : (if x6_3 = (x0_12.size : Int) then (nameconstraints_domainNameValid.j4 kj16 x0_12 x5_3 x6_3 true) else (if 0 ≤ x6_3 then (if x6_3 < (x0_12.size : Int) then (nameconstraints_domainNameValid.j4 kj16 x0_12 x5_3 x6_3 ((bt x0_12 x6_3) == 46)) else (none)) else (none))) = some r := by rw [if_neg (show ¬ (false = true) by decide)] at H; exact H
                              clear H
                              have H := H1
                              clear H1
                              have HC24 := Aside0.mk H
                              clear H
                              go_upto_region 13 with (fail)
                              go_cut [56] (fun v56 wc => ∃ (kq : Nat) (x56_23 : Bool), v56 = .bool x56_23 ∧ Aside0 (nameconstraints_domainNameValid.j4 kq x0_12 x5_3 x6_3 x56_23 = some r) ∧ Aside0 (kq ≤ kj16) ∧ Drawn0 w wc)
                              case first =>
                                have H := HC24.out
                                clear HC24
                                by_cases c25 : x6_3 = (x0_12.size : Int)
                                · rw [if_pos c25] at H
                                  have c25b0 : (x6_3 == (x0_12.size : Int)) = true := beq_iff_eq.mpr c25
                                  have c25b1 : (x6_3 != (x0_12.size : Int)) = false := bne_eq_false_iff_eq.mpr c25
                                  clear c25
                                  (first | rw [c25b0] | (simp only [i64_w, i32_w]; rw [c25b0]) | skip)
                                  have H' := Aside0.mk H
                                  clear H
                                  go_wp2
                                  go_meet
                                  case rel => exact ⟨_, (true), (by first | rfl | (simp; done) | (simp [*]; done)), H', ⟨by have := HJ8.out; have := HJ12.out; have := HK3.out; have := HJ16.out; first | omega | exact Nat.le_refl _⟩, by repeat (first | exact Drawn0.refl _ | apply Drawn0.step)⟩
                                · rw [if_neg c25] at H
                                  have c25b0 : (x6_3 == (x0_12.size : Int)) = false := beq_eq_false_iff_ne.mpr c25
                                  have c25b1 : (x6_3 != (x0_12.size : Int)) = true := bne_iff_ne.mpr c25
                                  (first | rw [c25b0] | (simp only [i64_w, i32_w]; rw [c25b0]) | skip)
                                  by_cases c26 : 0 ≤ x6_3
                                  · rw [if_pos c26] at H
                                    have c26b0 : decide (0 ≤ x6_3) = true := decide_eq_true c26
                                    clear c26
                                    by_cases c27 : x6_3 < (x0_12.size : Int)
                                    · rw [if_pos c27] at H
                                      have c27b0 : decide (x6_3 < (x0_12.size : Int)) = true := decide_eq_true c27
                                      clear c27
                                      have H' := Aside0.mk H
                                      clear H
                                      have p28 : 0 ≤ (x6_3 : Int) := of_decide_eq_true (by first | (with_reducible assumption) | assumption)
                                      have q28 : x6_3 < (x0_12.size : Int) := of_decide_eq_true (by first | (with_reducible assumption) | assumption)
                                      have hx28 := bt_at x0_12 x6_3
                                      replace p28 := eq_true p28
                                      replace q28 := eq_true q28
                                      go_wp2
                                      go_meet
                                      case rel => exact ⟨_, (((bt x0_12 x6_3) == 46)), (by first | rfl | (simp; done) | (simp [*]; done)), H', ⟨by have := HJ8.out; have := HJ12.out; have := HK3.out; have := HJ16.out; first | omega | exact Nat.le_refl _⟩, by repeat (first | exact Drawn0.refl _ | apply Drawn0.step)⟩
                                    · rw [if_neg c27] at H
                                      exact absurd H (by simp)
                                  · rw [if_neg c26] at H
                                    exact absurd H (by simp)
                              case rest =>
                                clear HC24
                                try clear c1
                                try clear p1
                                try clear q1
                                try clear hx1
                                try clear qi1
                                try clear c2
                                try clear p2
                                try clear q2
                                try clear hx2
                                try clear c3
                                try clear c3b0
                                try clear c3b1
                                try clear c4
                                try clear c5
                                try clear c5b0
                                try clear c6
                                try clear c6b0
                                try clear p6
                                try clear p7
                                try clear q7
                                try clear hx7
                                try clear c8
                                try clear c8b0
                                try clear c8b1
                                try clear c10
                                try clear c11
                                try clear c11b0
                                try clear c11b1
                                try clear c12
                                try clear p12
                                try clear q12
                                try clear hx12
                                try clear qi12
                                try clear c14
                                try clear c15
                                try clear c15b0
                                try clear c15b1
                                try clear c16
                                try clear c16b0
                                try clear c18
                                try clear c18b0
                                try clear c19
                                try clear c19b0
                                try clear p20
                                try clear q20
                                try clear hx20
                                try clear c21
                                try clear c21b0
                                try clear p22
                                try clear q22
                                try clear hx22
                                try clear c23
                                try clear c25
                                try clear c25b0
                                try clear c25b1
                                try clear c26
                                try clear c26b0
                                try clear c27
                                try clear c27b0
                                try clear p28
                                try clear q28
                                try clear hx28
                                try clear p1
                                try clear p12
                                try clear p2
                                try clear p20
                                try clear p22
                                try clear p28
                                try clear p6
                                try clear p7
                                try clear q1
                                try clear q12
                                try clear q2
                                try clear q20
                                try clear q22
                                try clear q28
                                try clear q7
                                obtain ⟨kq, x56_23, rfl, HA, HJ23, ⟨mc23, rfl⟩⟩ := hcut
                                cases kq with
                                | zero => exact absurd HA.out (by simp [nameconstraints_domainNameValid.j4])
                                | succ kj23 =>
                                  have H := HA.out
                                  clear HA
                                  simp only [nameconstraints_domainNameValid.j4] at H
                                  by_cases c29 : x56_23 = true
                                  · subst c29
                                    have H1 : (if x5_3 ≥ 0 then (if (wrap64 (x6_3 - (wrap64 (x5_3 + 1)))) = 0 then (some false) else (nameconstraints_domainNameValid.l0 kj23 x0_12 x6_3 (wrap64 (x6_3 + 1)))) else (if x6_3 = 0 then (some false) else (nameconstraints_domainNameValid.l0 kj23 x0_12 x6_3 (wrap64 (x6_3 + 1))))) = some r := by rw [if_pos rfl] at H; exact H
                                    clear H
                                    have H := H1
                                    clear H1
                                    by_cases c30 : x5_3 ≥ 0
                                    · rw [if_pos c30] at H
                                      have c30b0 : decide (0 ≤ x5_3) = true := decide_eq_true c30
                                      clear c30
                                      by_cases c31 : (wrap64 (x6_3 - (wrap64 (x5_3 + 1)))) = 0
                                      · rw [if_pos c31] at H
                                        have c31b0 : ((wrap64 (x6_3 - (wrap64 (x5_3 + 1)))) == 0) = true := beq_iff_eq.mpr c31
                                        have c31b1 : ((wrap64 (x6_3 - (wrap64 (x5_3 + 1)))) != 0) = false := bne_eq_false_iff_eq.mpr c31
                                        clear c31
                                        obtain rfl := Option.some.inj H
                                        go_wp2
                                        go_ret
                                        exact ⟨by first | rfl | (simp; done) | (simp only [← hji4] <;> (first | rfl | simp)) | (simp [*]; done), by repeat (first | exact Drawn0.refl _ | apply Drawn0.step)⟩
                                      · rw [if_neg c31] at H
                                        have c31b0 : ((wrap64 (x6_3 - (wrap64 (x5_3 + 1)))) == 0) = false := beq_eq_false_iff_ne.mpr c31
                                        have c31b1 : ((wrap64 (x6_3 - (wrap64 (x5_3 + 1)))) != 0) = true := bne_iff_ne.mpr c31
                                        have H' := Aside0.mk H
                                        clear H
                                        go_wp2
                                        go_roundg kj23
                                        case measure => have := HJ8.out; have := HJ12.out; have := HK3.out; have := HJ16.out; have := HJ23.out; omega
                                        case rel => exact ⟨(x6_3), (wrap64 (x6_3 + 1)), (by first | rfl | (simp; done) | (simp [*]; done)), (by first | rfl | (simp; done) | (simp [*]; done)), H', ⟨by have := HJ8.out; have := HJ12.out; have := HK3.out; have := HJ16.out; have := HJ23.out; omega⟩, by repeat (first | exact Drawn0.refl _ | apply Drawn0.step)⟩
                                    · rw [if_neg c30] at H
                                      have c30b0 : decide (0 ≤ x5_3) = false := decide_eq_false c30
                                      clear c30
                                      by_cases c32 : x6_3 = 0
                                      · rw [if_pos c32] at H
                                        have c32b0 : (x6_3 == 0) = true := beq_iff_eq.mpr c32
                                        have c32b1 : (x6_3 != 0) = false := bne_eq_false_iff_eq.mpr c32
                                        clear c32
                                        obtain rfl := Option.some.inj H
                                        go_wp2
                                        go_ret
                                        exact ⟨by first | rfl | (simp; done) | (simp only [← hji4] <;> (first | rfl | simp)) | (simp [*]; done), by repeat (first | exact Drawn0.refl _ | apply Drawn0.step)⟩
                                      · rw [if_neg c32] at H
                                        have c32b0 : (x6_3 == 0) = false := beq_eq_false_iff_ne.mpr c32
                                        have c32b1 : (x6_3 != 0) = true := bne_iff_ne.mpr c32
                                        have H' := Aside0.mk H
                                        clear H
                                        go_wp2
                                        go_roundg kj23
                                        case measure => have := HJ8.out; have := HJ12.out; have := HK3.out; have := HJ16.out; have := HJ23.out; omega
                                        case rel => exact ⟨(x6_3), (wrap64 (x6_3 + 1)), (by first | rfl | (simp; done) | (simp [*]; done)), (by first | rfl | (simp; done) | (simp [*]; done)), H', ⟨by have := HJ8.out; have := HJ12.out; have := HK3.out; have := HJ16.out; have := HJ23.out; omega⟩, by repeat (first | exact Drawn0.refl _ | apply Drawn0.step)⟩
                                  · replace c29 := Bool.eq_false_iff.mpr c29
                                    subst c29
                                    have H1 : (nameconstraints_domainNameValid.l0 kj23 x0_12 x5_3 (wrap64 (x6_3 + 1))) = some r := by rw [if_neg (show ¬ (false = true) by decide)] at H; exact H
                                    clear H
                                    have H := H1
                                    clear H1
                                    have H' := Aside0.mk H
                                    clear H
                                    go_wp2
                                    go_roundg kj23
                                    case measure => have := HJ8.out; have := HJ12.out; have := HK3.out; have := HJ16.out; have := HJ23.out; omega
                                    case rel => exact ⟨(x5_3), (wrap64 (x6_3 + 1)), (by first | rfl | (simp; done) | (simp [*]; done)), (by first | rfl | (simp; done) | (simp [*]; done)), H', ⟨by have := HJ8.out; have := HJ12.out; have := HK3.out; have := HJ16.out; have := HJ23.out; omega⟩, by repeat (first | exact Drawn0.refl _ | apply Drawn0.step)⟩
                      · rw [if_neg c16] at H
                        have c16b0 : decide (x6_3 ≤ (x0_12.size : Int)) = false := decide_eq_false c16
                        clear c16
                        obtain rfl := Option.some.inj H
                        go_wp2
                        go_ret
                        exact ⟨by first | rfl | (simp; done) | (simp only [← hji4] <;> (first | rfl | simp)) | (simp [*]; done), by repeat (first | exact Drawn0.refl _ | apply Drawn0.step)⟩
      · rw [if_neg c6] at H
        exact absurd H (by simp)
    · rw [if_neg c5] at H
      exact absurd H (by simp)

-- NOT PRINTED: function 44 (nameconstraints_checkConstraints_string_string_string)

-- NOT PRINTED: function 45 (nameconstraints_parsedURI)

-- NOT PRINTED: function 46 (nameconstraints_rfc2821Mailbox)

-- NOT PRINTED: function 29 (nameconstraints_chainConstraints_check)

-- NOT PRINTED: function 23 (nameconstraints_ZZCheckURI)

-- NOT PRINTED: function 13 (impl_CheckURI)

end Go.Proofs.YtbnelehiieglbaaGreatDoor.PFnCheckURI
