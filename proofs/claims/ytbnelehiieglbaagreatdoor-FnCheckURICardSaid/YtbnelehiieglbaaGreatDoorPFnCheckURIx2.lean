-- PRINTED BY print.sh 35421559b90ae4d0a3588c463048766b98c2df88dd9212a6774a882060cdf62d: not written by this session
import Derived.Test.YtbnelehiieglbaaGreatDoorPFnCheckURIx0
import Derived.Test.YtbnelehiieglbaaGreatDoorPFnCheckURIx1
namespace Go.Proofs.YtbnelehiieglbaaGreatDoor.PFnCheckURI
open Go.RowKit Go.Proofs.YtbnelehiieglbaaGreatDoorW.PrintWords Go.Proofs.YtbnelehiieglbaaGreatDoorW.PrintLast Go.Proofs.YtbnelehiieglbaaGreatDoorW.PrintMore
attribute [local go_sem] max2_int min2_int max_two min_two max_three min_three max_four min_four   -- for this text's walks alone
set_option linter.unusedVariables false
set_option linter.unusedSimpArgs false

/-! ### spec_labelOk: function 16 -/
mutual
def spec_labelOk.j0 : Nat → ByteArray → Bool → Option (Bool)
  | 0, _, _ => none
  | k + 1, x0, x25 => if x25 = true then (some false) else (spec_labelOk.l0 k x0 0)
def spec_labelOk.l0 : Nat → ByteArray → Int → Option (Bool)
  | 0, _, _ => none
  | k + 1, x0, x3 => if x3 < (x0.size : Int) then (if 0 ≤ x3 then ((spec_lower.f (bt x0 x3)).bind fun t113 => (if t113 ≥ 97 then (if t113 ≤ 122 then (spec_labelOk.l0 k x0 (wrap64 (x3 + 1))) else (if t113 ≥ 48 then (if t113 ≤ 57 then (spec_labelOk.l0 k x0 (wrap64 (x3 + 1))) else (if t113 = 45 then (spec_labelOk.l0 k x0 (wrap64 (x3 + 1))) else (some false))) else (if t113 = 45 then (spec_labelOk.l0 k x0 (wrap64 (x3 + 1))) else (some false)))) else (if t113 ≥ 48 then (if t113 ≤ 57 then (spec_labelOk.l0 k x0 (wrap64 (x3 + 1))) else (if t113 = 45 then (spec_labelOk.l0 k x0 (wrap64 (x3 + 1))) else (some false))) else (if t113 = 45 then (spec_labelOk.l0 k x0 (wrap64 (x3 + 1))) else (some false))))) else (none)) else (some true)
end
def spec_labelOk.f (k : Nat) (a0 : ByteArray) : Option (Bool) := if (a0.size : Int) < 1 then (spec_labelOk.j0 k a0 true) else (if (a0.size : Int) > 63 then (spec_labelOk.j0 k a0 true) else (if 0 < (a0.size : Int) then (if (bt a0 0) = 45 then (spec_labelOk.j0 k a0 true) else (if 0 ≤ (wrap64 ((a0.size : Int) - 1)) then (if (wrap64 ((a0.size : Int) - 1)) < (a0.size : Int) then (spec_labelOk.j0 k a0 ((bt a0 (wrap64 ((a0.size : Int) - 1))) == 45)) else (none)) else (none))) else (none)))
theorem spec_labelOk.mono_l : ∀ k, (∀ y0 y1, LeO (spec_labelOk.j0 k y0 y1) (spec_labelOk.j0 (k + 1) y0 y1)) ∧ (∀ y0 y1, LeO (spec_labelOk.l0 k y0 y1) (spec_labelOk.l0 (k + 1) y0 y1))
  | 0 => ⟨fun _ _ r h => by simp [spec_labelOk.j0] at h, fun _ _ r h => by simp [spec_labelOk.l0] at h⟩
  | k + 1 => by
    obtain ⟨ih0, ih1⟩ := spec_labelOk.mono_l k
    refine ⟨?_, ?_⟩
    · intro y0 y1
      unfold spec_labelOk.j0
      repeat' first
      | (with_reducible exact ih0 _ _)
      | (with_reducible exact ih1 _ _)
      | (with_reducible exact LeO.refl _)
      | (with_reducible exact LeO.none _)
      | (with_reducible refine LeO.ite ?_ ?_)
      | (with_reducible refine LeO.bind ?_ (fun _ => ?_))
      | exact ih0 _ _
      | exact ih1 _ _
      | exact LeO.none _
      | refine LeO.ite ?_ ?_
      | refine LeO.bind ?_ (fun _ => ?_)
    · intro y0 y1
      unfold spec_labelOk.l0
      repeat' first
      | (with_reducible exact ih0 _ _)
      | (with_reducible exact ih1 _ _)
      | (with_reducible exact LeO.refl _)
      | (with_reducible exact LeO.none _)
      | (with_reducible refine LeO.ite ?_ ?_)
      | (with_reducible refine LeO.bind ?_ (fun _ => ?_))
      | exact ih0 _ _
      | exact ih1 _ _
      | exact LeO.none _
      | refine LeO.ite ?_ ?_
      | refine LeO.bind ?_ (fun _ => ?_)
theorem spec_labelOk.mono : ∀ a0 k, LeO (spec_labelOk.f k a0) (spec_labelOk.f (k + 1) a0) := by
  intro a0 k
  obtain ⟨ih0, ih1⟩ := spec_labelOk.mono_l k
  unfold spec_labelOk.f
  repeat' first
      | (with_reducible exact ih0 _ _)
      | (with_reducible exact ih1 _ _)
      | (with_reducible exact LeO.refl _)
      | (with_reducible exact LeO.none _)
      | (with_reducible refine LeO.ite ?_ ?_)
      | (with_reducible refine LeO.bind ?_ (fun _ => ?_))
      | exact ih0 _ _
      | exact ih1 _ _
      | exact LeO.none _
      | refine LeO.ite ?_ ?_
      | refine LeO.bind ?_ (fun _ => ?_)
set_option maxHeartbeats 8000000 in
set_option maxRecDepth 100000 in
theorem spec_labelOk.calls (k : Nat) (a0 : ByteArray) (r : Bool) (w : World) (h : spec_labelOk.f k a0 = some r) :
    Calls Tryz.prog 16 #[.string a0] w fun e w' => e = .returned (.bool r) ∧ Drawn0 w w' := by
  have H : (if (a0.size : Int) < 1 then (spec_labelOk.j0 k a0 true) else (if (a0.size : Int) > 63 then (spec_labelOk.j0 k a0 true) else (if 0 < (a0.size : Int) then (if (bt a0 0) = 45 then (spec_labelOk.j0 k a0 true) else (if 0 ≤ (wrap64 ((a0.size : Int) - 1)) then (if (wrap64 ((a0.size : Int) - 1)) < (a0.size : Int) then (spec_labelOk.j0 k a0 ((bt a0 (wrap64 ((a0.size : Int) - 1))) == 45)) else (none)) else (none))) else (none)))) = some r := h
  clear h
  have HC2 := Aside0.mk H
  clear H
  go_enter Tryz.func16, Tryz.ntmps16
  go_upto_region 1 with (fail)
  go_cut [25] (fun v25 wc => ∃ (kq : Nat) (x25_1 : Bool), v25 = .bool x25_1 ∧ Aside0 (spec_labelOk.j0 kq a0 x25_1 = some r) ∧ Aside0 (kq ≤ k) ∧ Drawn0 w wc)
  case first =>
    have H := HC2.out
    clear HC2
    by_cases c3 : (a0.size : Int) < 1
    · rw [if_pos c3] at H
      have c3b0 : decide ((a0.size : Int) < 1) = true := decide_eq_true c3
      have c3b1 : decide (a0.size < 1) = true := decide_eq_true (by omega)
      clear c3
      (first | rw [c3b0] | (simp only [i64_w, i32_w]; rw [c3b0]) | skip)
      have H' := Aside0.mk H
      clear H
      go_wp2
      go_meet
      case rel => exact ⟨_, (true), (by first | rfl | (simp; done) | (simp [*]; done)), H', ⟨by first | omega | exact Nat.le_refl _⟩, by repeat (first | exact Drawn0.refl _ | apply Drawn0.step)⟩
    · rw [if_neg c3] at H
      have c3b0 : decide ((a0.size : Int) < 1) = false := decide_eq_false c3
      have c3b1 : decide (a0.size < 1) = false := decide_eq_false (by omega)
      clear c3
      (first | rw [c3b0] | (simp only [i64_w, i32_w]; rw [c3b0]) | skip)
      by_cases c4 : (a0.size : Int) > 63
      · rw [if_pos c4] at H
        have c4b0 : decide (63 < (a0.size : Int)) = true := decide_eq_true c4
        have c4b1 : decide (63 < a0.size) = true := decide_eq_true (by omega)
        clear c4
        have H' := Aside0.mk H
        clear H
        go_wp2
        go_meet
        case rel => exact ⟨_, (true), (by first | rfl | (simp; done) | (simp [*]; done)), H', ⟨by first | omega | exact Nat.le_refl _⟩, by repeat (first | exact Drawn0.refl _ | apply Drawn0.step)⟩
      · rw [if_neg c4] at H
        have c4b0 : decide (63 < (a0.size : Int)) = false := decide_eq_false c4
        have c4b1 : decide (63 < a0.size) = false := decide_eq_false (by omega)
        clear c4
        by_cases c5 : 0 < (a0.size : Int)
        · rw [if_pos c5] at H
          have c5b0 : decide (0 < (a0.size : Int)) = true := decide_eq_true c5
          have c5b1 : decide (0 < a0.size) = true := decide_eq_true (by omega)
          clear c5
          by_cases c7 : (bt a0 0) = 45
          · rw [if_pos c7] at H
            have c7b0 : ((bt a0 0) == 45) = true := beq_iff_eq.mpr c7
            have c7b1 : ((bt a0 0) != 45) = false := bne_eq_false_iff_eq.mpr c7
            clear c7
            have H' := Aside0.mk H
            clear H
            have p6 : 0 ≤ (0 : Int) := (by omega)
            have q6 : 0 < a0.size := (by have : (0 : Int) < (a0.size : Int) := of_decide_eq_true (by first | (with_reducible assumption) | assumption); omega)
            have hx6 : ∀ h : 0 < a0.size, ((a0[0]'h).toNat : Int) = bt a0 0 := bt_at a0 0
            clear p6
            have qi6 : (0 < (a0.size : Int)) = True := eq_true (of_decide_eq_true (by first | (with_reducible assumption) | assumption))
            replace q6 := eq_true q6
            go_wp2
            go_meet
            case rel => exact ⟨_, (true), (by first | rfl | (simp; done) | (simp [*]; done)), H', ⟨by first | omega | exact Nat.le_refl _⟩, by repeat (first | exact Drawn0.refl _ | apply Drawn0.step)⟩
          · rw [if_neg c7] at H
            have c7b0 : ((bt a0 0) == 45) = false := beq_eq_false_iff_ne.mpr c7
            have c7b1 : ((bt a0 0) != 45) = true := bne_iff_ne.mpr c7
            obtain ⟨ji8, hji8⟩ : ∃ j_ : Int, (wrap64 ((a0.size : Int) - 1)) = j_ := ⟨_, rfl⟩
            replace H : (if 0 ≤ (ji8) then (if (ji8) < (a0.size : Int) then (spec_labelOk.j0 k a0 ((bt a0 (ji8)) == 45)) else (none)) else (none)) = some r := by first | (rw [hji8] at H; exact H) | (simp only [hji8] at H ⊢; exact H)
            have hji8w : (IntKind.i64.wrap ((a0.size : Int) - 1)) = ji8 := (i64_w _).trans hji8
            by_cases c9 : 0 ≤ (ji8)
            · rw [if_pos c9] at H
              have c9b0 : decide (0 ≤ (ji8)) = true := decide_eq_true c9
              clear c9
              by_cases c10 : (ji8) < (a0.size : Int)
              · rw [if_pos c10] at H
                have c10b0 : decide ((ji8) < (a0.size : Int)) = true := decide_eq_true c10
                clear c10
                have H' := Aside0.mk H
                clear H
                have p6 : 0 ≤ (0 : Int) := (by omega)
                have q6 : 0 < a0.size := (by have : (0 : Int) < (a0.size : Int) := of_decide_eq_true (by first | (with_reducible assumption) | assumption); omega)
                have hx6 : ∀ h : 0 < a0.size, ((a0[0]'h).toNat : Int) = bt a0 0 := bt_at a0 0
                clear p6
                have qi6 : (0 < (a0.size : Int)) = True := eq_true (of_decide_eq_true (by first | (with_reducible assumption) | assumption))
                replace q6 := eq_true q6
                have p11 : 0 ≤ ((ji8) : Int) := of_decide_eq_true (by first | (with_reducible assumption) | assumption)
                have q11 : (ji8) < (a0.size : Int) := of_decide_eq_true (by first | (with_reducible assumption) | assumption)
                have hx11 := bt_at a0 (ji8)
                replace p11 := eq_true p11
                replace q11 := eq_true q11
                go_wp2
                go_meet
                case rel => exact ⟨_, (((bt a0 (ji8)) == 45)), (by first | rfl | (simp; done) | (simp only [← hji8] <;> (first | rfl | simp)) | (simp [*]; done)), H', ⟨by first | omega | exact Nat.le_refl _⟩, by repeat (first | exact Drawn0.refl _ | apply Drawn0.step)⟩
              · rw [if_neg c10] at H
                exact absurd H (by simp)
            · rw [if_neg c9] at H
              exact absurd H (by simp)
        · rw [if_neg c5] at H
          exact absurd H (by simp)
  case rest =>
    clear HC2
    try clear c1
    try clear p1
    try clear q1
    try clear hx1
    try clear p2
    try clear c3
    try clear c3b0
    try clear c3b1
    try clear c4
    try clear c4b0
    try clear c4b1
    try clear c5
    try clear c5b0
    try clear c5b1
    try clear p6
    try clear q6
    try clear hx6
    try clear qi6
    try clear c7
    try clear c7b0
    try clear c7b1
    try clear c9
    try clear c9b0
    try clear c10
    try clear c10b0
    try clear p11
    try clear q11
    try clear hx11
    try clear p11
    try clear p6
    try clear q11
    try clear q6
    obtain ⟨kq, x25_1, rfl, HA, HJ1, ⟨mc1, rfl⟩⟩ := hcut
    cases kq with
    | zero => exact absurd HA.out (by simp [spec_labelOk.j0])
    | succ kj1 =>
      have H := HA.out
      clear HA
      simp only [spec_labelOk.j0] at H
      by_cases c12 : x25_1 = true
      · subst c12
        have H1 : (some false) = some r := by rw [if_pos rfl] at H; exact H
        clear H
        have H := H1
        clear H1
        obtain rfl := Option.some.inj H
        go_wp2
        go_ret
        exact ⟨by first | rfl | (simp; done) | (simp [*]; done), by repeat (first | exact Drawn0.refl _ | apply Drawn0.step)⟩
      · replace c12 := Bool.eq_false_iff.mpr c12
        subst c12
        have H1 : (spec_labelOk.l0 kj1 a0 0) = some r := by rw [if_neg (show ¬ (false = true) by decide)] at H; exact H
        clear H
        have H := H1
        clear H1
        have H' := Aside0.mk H
        clear H
        go_wp2
        go_loopg [3] kj1 (fun kq v3 w' => ∃ (x3_2 : Int), v3 = .int .i64 x3_2 ∧ Aside0 (spec_labelOk.l0 kq a0 x3_2 = some r) ∧ Aside0 (kq ≤ kj1) ∧ Drawn0 w w')
        case atStart => exact ⟨(0), (by first | rfl | (simp; done) | (simp [*]; done)), H', ⟨Nat.le_refl _⟩, by repeat (first | exact Drawn0.refl _ | apply Drawn0.step)⟩
        case round =>
          clear H'
          try clear c1
          try clear p1
          try clear q1
          try clear hx1
          try clear p2
          try clear c3
          try clear c3b0
          try clear c3b1
          try clear c4
          try clear c4b0
          try clear c4b1
          try clear c5
          try clear c5b0
          try clear c5b1
          try clear p6
          try clear q6
          try clear hx6
          try clear qi6
          try clear c7
          try clear c7b0
          try clear c7b1
          try clear c9
          try clear c9b0
          try clear c10
          try clear c10b0
          try clear p11
          try clear q11
          try clear hx11
          try clear c12
          try clear p1
          try clear p11
          try clear p2
          try clear p6
          try clear q1
          try clear q11
          try clear q6
          obtain ⟨x3_2, rfl, HA, HK2, ⟨m2, rfl⟩⟩ := hrel
          cases gk with
          | zero => exact absurd HA.out (by simp [spec_labelOk.l0])
          | succ k2 =>
            have H := HA.out
            clear HA
            simp only [spec_labelOk.l0] at H
            by_cases c13 : x3_2 < (a0.size : Int)
            · rw [if_pos c13] at H
              have c13b0 : decide (x3_2 < (a0.size : Int)) = true := decide_eq_true c13
              clear c13
              by_cases c14 : 0 ≤ x3_2
              · rw [if_pos c14] at H
                have c14b0 : decide (0 ≤ x3_2) = true := decide_eq_true c14
                clear c14
                replace H := Option.bind_eq_some_iff.mp H
                obtain ⟨t113, A160, H⟩ := H
                replace H : (if t113 ≥ 97 then (if t113 ≤ 122 then (spec_labelOk.l0 k2 a0 (wrap64 (x3_2 + 1))) else (if t113 ≥ 48 then (if t113 ≤ 57 then (spec_labelOk.l0 k2 a0 (wrap64 (x3_2 + 1))) else (if t113 = 45 then (spec_labelOk.l0 k2 a0 (wrap64 (x3_2 + 1))) else (some false))) else (if t113 = 45 then (spec_labelOk.l0 k2 a0 (wrap64 (x3_2 + 1))) else (some false)))) else (if t113 ≥ 48 then (if t113 ≤ 57 then (spec_labelOk.l0 k2 a0 (wrap64 (x3_2 + 1))) else (if t113 = 45 then (spec_labelOk.l0 k2 a0 (wrap64 (x3_2 + 1))) else (some false))) else (if t113 = 45 then (spec_labelOk.l0 k2 a0 (wrap64 (x3_2 + 1))) else (some false)))) = some r := H
                have A16 := Aside0.mk A160
                clear A160
                by_cases c17 : t113 ≥ 97
                · rw [if_pos c17] at H
                  have c17b0 : decide (97 ≤ t113) = true := decide_eq_true c17
                  clear c17
                  by_cases c18 : t113 ≤ 122
                  · rw [if_pos c18] at H
                    have c18b0 : decide (t113 ≤ 122) = true := decide_eq_true c18
                    clear c18
                    have H' := Aside0.mk H
                    clear H
                    have p15 : 0 ≤ (x3_2 : Int) := of_decide_eq_true (by first | (with_reducible assumption) | assumption)
                    have q15 : x3_2 < (a0.size : Int) := of_decide_eq_true (by first | (with_reducible assumption) | assumption)
                    have hx15 := bt_at a0 x3_2
                    replace p15 := eq_true p15
                    replace q15 := eq_true q15
                    go_wp2_with (first | ((with_reducible refine gate_callee (f := 17) rfl ?_); refine goesL_ (some 35) rfl rfl Tryz.func17 (by kernel_rfl) rfl #[.int .u8 (bt a0 x3_2)] rfl (by (try simp only [List.map_toArray, List.map_cons, List.map_nil]); first | done | rfl | (simp only [List.length_drop, List.length_take]; rfl)) ?_; (with_reducible refine (spec_lower.calls (bt a0 x3_2) t113 _ A16.out).mono ?_); rintro e w' ⟨rfl, ⟨nd, rfl⟩⟩; refine ⟨_, rfl, ?_⟩))
                    go_roundg k2
                    case measure => have := HJ1.out; have := HK2.out; omega
                    case rel => exact ⟨(wrap64 (x3_2 + 1)), (by first | rfl | (simp; done) | (simp [*]; done)), H', ⟨by have := HJ1.out; have := HK2.out; omega⟩, by repeat (first | exact Drawn0.refl _ | apply Drawn0.step)⟩
                  · rw [if_neg c18] at H
                    have c18b0 : decide (t113 ≤ 122) = false := decide_eq_false c18
                    clear c18
                    by_cases c19 : t113 ≥ 48
                    · rw [if_pos c19] at H
                      have c19b0 : decide (48 ≤ t113) = true := decide_eq_true c19
                      clear c19
                      by_cases c20 : t113 ≤ 57
                      · rw [if_pos c20] at H
                        have c20b0 : decide (t113 ≤ 57) = true := decide_eq_true c20
                        clear c20
                        have H' := Aside0.mk H
                        clear H
                        have p15 : 0 ≤ (x3_2 : Int) := of_decide_eq_true (by first | (with_reducible assumption) | assumption)
                        have q15 : x3_2 < (a0.size : Int) := of_decide_eq_true (by first | (with_reducible assumption) | assumption)
                        have hx15 := bt_at a0 x3_2
                        replace p15 := eq_true p15
                        replace q15 := eq_true q15
                        go_wp2_with (first | ((with_reducible refine gate_callee (f := 17) rfl ?_); refine goesL_ (some 35) rfl rfl Tryz.func17 (by kernel_rfl) rfl #[.int .u8 (bt a0 x3_2)] rfl (by (try simp only [List.map_toArray, List.map_cons, List.map_nil]); first | done | rfl | (simp only [List.length_drop, List.length_take]; rfl)) ?_; (with_reducible refine (spec_lower.calls (bt a0 x3_2) t113 _ A16.out).mono ?_); rintro e w' ⟨rfl, ⟨nd, rfl⟩⟩; refine ⟨_, rfl, ?_⟩))
                        go_roundg k2
                        case measure => have := HJ1.out; have := HK2.out; omega
                        case rel => exact ⟨(wrap64 (x3_2 + 1)), (by first | rfl | (simp; done) | (simp [*]; done)), H', ⟨by have := HJ1.out; have := HK2.out; omega⟩, by repeat (first | exact Drawn0.refl _ | apply Drawn0.step)⟩
                      · rw [if_neg c20] at H
                        have c20b0 : decide (t113 ≤ 57) = false := decide_eq_false c20
                        clear c20
                        by_cases c21 : t113 = 45
                        · rw [if_pos c21] at H
                          have c21b0 : (t113 == 45) = true := beq_iff_eq.mpr c21
                          have c21b1 : (t113 != 45) = false := bne_eq_false_iff_eq.mpr c21
                          clear c21
                          have H' := Aside0.mk H
                          clear H
                          have p15 : 0 ≤ (x3_2 : Int) := of_decide_eq_true (by first | (with_reducible assumption) | assumption)
                          have q15 : x3_2 < (a0.size : Int) := of_decide_eq_true (by first | (with_reducible assumption) | assumption)
                          have hx15 := bt_at a0 x3_2
                          replace p15 := eq_true p15
                          replace q15 := eq_true q15
                          go_wp2_with (first | ((with_reducible refine gate_callee (f := 17) rfl ?_); refine goesL_ (some 35) rfl rfl Tryz.func17 (by kernel_rfl) rfl #[.int .u8 (bt a0 x3_2)] rfl (by (try simp only [List.map_toArray, List.map_cons, List.map_nil]); first | done | rfl | (simp only [List.length_drop, List.length_take]; rfl)) ?_; (with_reducible refine (spec_lower.calls (bt a0 x3_2) t113 _ A16.out).mono ?_); rintro e w' ⟨rfl, ⟨nd, rfl⟩⟩; refine ⟨_, rfl, ?_⟩))
                          go_roundg k2
                          case measure => have := HJ1.out; have := HK2.out; omega
                          case rel => exact ⟨(wrap64 (x3_2 + 1)), (by first | rfl | (simp; done) | (simp [*]; done)), H', ⟨by have := HJ1.out; have := HK2.out; omega⟩, by repeat (first | exact Drawn0.refl _ | apply Drawn0.step)⟩
                        · rw [if_neg c21] at H
                          have c21b0 : (t113 == 45) = false := beq_eq_false_iff_ne.mpr c21
                          have c21b1 : (t113 != 45) = true := bne_iff_ne.mpr c21
                          obtain rfl := Option.some.inj H
                          have p15 : 0 ≤ (x3_2 : Int) := of_decide_eq_true (by first | (with_reducible assumption) | assumption)
                          have q15 : x3_2 < (a0.size : Int) := of_decide_eq_true (by first | (with_reducible assumption) | assumption)
                          have hx15 := bt_at a0 x3_2
                          replace p15 := eq_true p15
                          replace q15 := eq_true q15
                          go_wp2_with (first | ((with_reducible refine gate_callee (f := 17) rfl ?_); refine goesL_ (some 35) rfl rfl Tryz.func17 (by kernel_rfl) rfl #[.int .u8 (bt a0 x3_2)] rfl (by (try simp only [List.map_toArray, List.map_cons, List.map_nil]); first | done | rfl | (simp only [List.length_drop, List.length_take]; rfl)) ?_; (with_reducible refine (spec_lower.calls (bt a0 x3_2) t113 _ A16.out).mono ?_); rintro e w' ⟨rfl, ⟨nd, rfl⟩⟩; refine ⟨_, rfl, ?_⟩))
                          go_ret
                          exact ⟨by first | rfl | (simp; done) | (simp [*]; done), by repeat (first | exact Drawn0.refl _ | apply Drawn0.step)⟩
                    · rw [if_neg c19] at H
                      have c19b0 : decide (48 ≤ t113) = false := decide_eq_false c19
                      clear c19
                      by_cases c22 : t113 = 45
                      · rw [if_pos c22] at H
                        have c22b0 : (t113 == 45) = true := beq_iff_eq.mpr c22
                        have c22b1 : (t113 != 45) = false := bne_eq_false_iff_eq.mpr c22
                        clear c22
                        have H' := Aside0.mk H
                        clear H
                        have p15 : 0 ≤ (x3_2 : Int) := of_decide_eq_true (by first | (with_reducible assumption) | assumption)
                        have q15 : x3_2 < (a0.size : Int) := of_decide_eq_true (by first | (with_reducible assumption) | assumption)
                        have hx15 := bt_at a0 x3_2
                        replace p15 := eq_true p15
                        replace q15 := eq_true q15
                        go_wp2_with (first | ((with_reducible refine gate_callee (f := 17) rfl ?_); refine goesL_ (some 35) rfl rfl Tryz.func17 (by kernel_rfl) rfl #[.int .u8 (bt a0 x3_2)] rfl (by (try simp only [List.map_toArray, List.map_cons, List.map_nil]); first | done | rfl | (simp only [List.length_drop, List.length_take]; rfl)) ?_; (with_reducible refine (spec_lower.calls (bt a0 x3_2) t113 _ A16.out).mono ?_); rintro e w' ⟨rfl, ⟨nd, rfl⟩⟩; refine ⟨_, rfl, ?_⟩))
                        go_roundg k2
                        case measure => have := HJ1.out; have := HK2.out; omega
                        case rel => exact ⟨(wrap64 (x3_2 + 1)), (by first | rfl | (simp; done) | (simp [*]; done)), H', ⟨by have := HJ1.out; have := HK2.out; omega⟩, by repeat (first | exact Drawn0.refl _ | apply Drawn0.step)⟩
                      · rw [if_neg c22] at H
                        have c22b0 : (t113 == 45) = false := beq_eq_false_iff_ne.mpr c22
                        have c22b1 : (t113 != 45) = true := bne_iff_ne.mpr c22
                        obtain rfl := Option.some.inj H
                        have p15 : 0 ≤ (x3_2 : Int) := of_decide_eq_true (by first | (with_reducible assumption) | assumption)
                        have q15 : x3_2 < (a0.size : Int) := of_decide_eq_true (by first | (with_reducible assumption) | assumption)
                        have hx15 := bt_at a0 x3_2
                        replace p15 := eq_true p15
                        replace q15 := eq_true q15
                        go_wp2_with (first | ((with_reducible refine gate_callee (f := 17) rfl ?_); refine goesL_ (some 35) rfl rfl Tryz.func17 (by kernel_rfl) rfl #[.int .u8 (bt a0 x3_2)] rfl (by (try simp only [List.map_toArray, List.map_cons, List.map_nil]); first | done | rfl | (simp only [List.length_drop, List.length_take]; rfl)) ?_; (with_reducible refine (spec_lower.calls (bt a0 x3_2) t113 _ A16.out).mono ?_); rintro e w' ⟨rfl, ⟨nd, rfl⟩⟩; refine ⟨_, rfl, ?_⟩))
                        go_ret
                        exact ⟨by first | rfl | (simp; done) | (simp [*]; done), by repeat (first | exact Drawn0.refl _ | apply Drawn0.step)⟩
                · rw [if_neg c17] at H
                  have c17b0 : decide (97 ≤ t113) = false := decide_eq_false c17
                  clear c17
                  by_cases c23 : t113 ≥ 48
                  · rw [if_pos c23] at H
                    have c23b0 : decide (48 ≤ t113) = true := decide_eq_true c23
                    clear c23
                    by_cases c24 : t113 ≤ 57
                    · rw [if_pos c24] at H
                      have c24b0 : decide (t113 ≤ 57) = true := decide_eq_true c24
                      clear c24
                      have H' := Aside0.mk H
                      clear H
                      have p15 : 0 ≤ (x3_2 : Int) := of_decide_eq_true (by first | (with_reducible assumption) | assumption)
                      have q15 : x3_2 < (a0.size : Int) := of_decide_eq_true (by first | (with_reducible assumption) | assumption)
                      have hx15 := bt_at a0 x3_2
                      replace p15 := eq_true p15
                      replace q15 := eq_true q15
                      go_wp2_with (first | ((with_reducible refine gate_callee (f := 17) rfl ?_); refine goesL_ (some 35) rfl rfl Tryz.func17 (by kernel_rfl) rfl #[.int .u8 (bt a0 x3_2)] rfl (by (try simp only [List.map_toArray, List.map_cons, List.map_nil]); first | done | rfl | (simp only [List.length_drop, List.length_take]; rfl)) ?_; (with_reducible refine (spec_lower.calls (bt a0 x3_2) t113 _ A16.out).mono ?_); rintro e w' ⟨rfl, ⟨nd, rfl⟩⟩; refine ⟨_, rfl, ?_⟩))
                      go_roundg k2
                      case measure => have := HJ1.out; have := HK2.out; omega
                      case rel => exact ⟨(wrap64 (x3_2 + 1)), (by first | rfl | (simp; done) | (simp [*]; done)), H', ⟨by have := HJ1.out; have := HK2.out; omega⟩, by repeat (first | exact Drawn0.refl _ | apply Drawn0.step)⟩
                    · rw [if_neg c24] at H
                      have c24b0 : decide (t113 ≤ 57) = false := decide_eq_false c24
                      clear c24
                      by_cases c25 : t113 = 45
                      · rw [if_pos c25] at H
                        have c25b0 : (t113 == 45) = true := beq_iff_eq.mpr c25
                        have c25b1 : (t113 != 45) = false := bne_eq_false_iff_eq.mpr c25
                        clear c25
                        have H' := Aside0.mk H
                        clear H
                        have p15 : 0 ≤ (x3_2 : Int) := of_decide_eq_true (by first | (with_reducible assumption) | assumption)
                        have q15 : x3_2 < (a0.size : Int) := of_decide_eq_true (by first | (with_reducible assumption) | assumption)
                        have hx15 := bt_at a0 x3_2
                        replace p15 := eq_true p15
                        replace q15 := eq_true q15
                        go_wp2_with (first | ((with_reducible refine gate_callee (f := 17) rfl ?_); refine goesL_ (some 35) rfl rfl Tryz.func17 (by kernel_rfl) rfl #[.int .u8 (bt a0 x3_2)] rfl (by (try simp only [List.map_toArray, List.map_cons, List.map_nil]); first | done | rfl | (simp only [List.length_drop, List.length_take]; rfl)) ?_; (with_reducible refine (spec_lower.calls (bt a0 x3_2) t113 _ A16.out).mono ?_); rintro e w' ⟨rfl, ⟨nd, rfl⟩⟩; refine ⟨_, rfl, ?_⟩))
                        go_roundg k2
                        case measure => have := HJ1.out; have := HK2.out; omega
                        case rel => exact ⟨(wrap64 (x3_2 + 1)), (by first | rfl | (simp; done) | (simp [*]; done)), H', ⟨by have := HJ1.out; have := HK2.out; omega⟩, by repeat (first | exact Drawn0.refl _ | apply Drawn0.step)⟩
                      · rw [if_neg c25] at H
                        have c25b0 : (t113 == 45) = false := beq_eq_false_iff_ne.mpr c25
                        have c25b1 : (t113 != 45) = true := bne_iff_ne.mpr c25
                        obtain rfl := Option.some.inj H
                        have p15 : 0 ≤ (x3_2 : Int) := of_decide_eq_true (by first | (with_reducible assumption) | assumption)
                        have q15 : x3_2 < (a0.size : Int) := of_decide_eq_true (by first | (with_reducible assumption) | assumption)
                        have hx15 := bt_at a0 x3_2
                        replace p15 := eq_true p15
                        replace q15 := eq_true q15
                        go_wp2_with (first | ((with_reducible refine gate_callee (f := 17) rfl ?_); refine goesL_ (some 35) rfl rfl Tryz.func17 (by kernel_rfl) rfl #[.int .u8 (bt a0 x3_2)] rfl (by (try simp only [List.map_toArray, List.map_cons, List.map_nil]); first | done | rfl | (simp only [List.length_drop, List.length_take]; rfl)) ?_; (with_reducible refine (spec_lower.calls (bt a0 x3_2) t113 _ A16.out).mono ?_); rintro e w' ⟨rfl, ⟨nd, rfl⟩⟩; refine ⟨_, rfl, ?_⟩))
                        go_ret
                        exact ⟨by first | rfl | (simp; done) | (simp [*]; done), by repeat (first | exact Drawn0.refl _ | apply Drawn0.step)⟩
                  · rw [if_neg c23] at H
                    have c23b0 : decide (48 ≤ t113) = false := decide_eq_false c23
                    clear c23
                    by_cases c26 : t113 = 45
                    · rw [if_pos c26] at H
                      have c26b0 : (t113 == 45) = true := beq_iff_eq.mpr c26
                      have c26b1 : (t113 != 45) = false := bne_eq_false_iff_eq.mpr c26
                      clear c26
                      have H' := Aside0.mk H
                      clear H
                      have p15 : 0 ≤ (x3_2 : Int) := of_decide_eq_true (by first | (with_reducible assumption) | assumption)
                      have q15 : x3_2 < (a0.size : Int) := of_decide_eq_true (by first | (with_reducible assumption) | assumption)
                      have hx15 := bt_at a0 x3_2
                      replace p15 := eq_true p15
                      replace q15 := eq_true q15
                      go_wp2_with (first | ((with_reducible refine gate_callee (f := 17) rfl ?_); refine goesL_ (some 35) rfl rfl Tryz.func17 (by kernel_rfl) rfl #[.int .u8 (bt a0 x3_2)] rfl (by (try simp only [List.map_toArray, List.map_cons, List.map_nil]); first | done | rfl | (simp only [List.length_drop, List.length_take]; rfl)) ?_; (with_reducible refine (spec_lower.calls (bt a0 x3_2) t113 _ A16.out).mono ?_); rintro e w' ⟨rfl, ⟨nd, rfl⟩⟩; refine ⟨_, rfl, ?_⟩))
                      go_roundg k2
                      case measure => have := HJ1.out; have := HK2.out; omega
                      case rel => exact ⟨(wrap64 (x3_2 + 1)), (by first | rfl | (simp; done) | (simp [*]; done)), H', ⟨by have := HJ1.out; have := HK2.out; omega⟩, by repeat (first | exact Drawn0.refl _ | apply Drawn0.step)⟩
                    · rw [if_neg c26] at H
                      have c26b0 : (t113 == 45) = false := beq_eq_false_iff_ne.mpr c26
                      have c26b1 : (t113 != 45) = true := bne_iff_ne.mpr c26
                      obtain rfl := Option.some.inj H
                      have p15 : 0 ≤ (x3_2 : Int) := of_decide_eq_true (by first | (with_reducible assumption) | assumption)
                      have q15 : x3_2 < (a0.size : Int) := of_decide_eq_true (by first | (with_reducible assumption) | assumption)
                      have hx15 := bt_at a0 x3_2
                      replace p15 := eq_true p15
                      replace q15 := eq_true q15
                      go_wp2_with (first | ((with_reducible refine gate_callee (f := 17) rfl ?_); refine goesL_ (some 35) rfl rfl Tryz.func17 (by kernel_rfl) rfl #[.int .u8 (bt a0 x3_2)] rfl (by (try simp only [List.map_toArray, List.map_cons, List.map_nil]); first | done | rfl | (simp only [List.length_drop, List.length_take]; rfl)) ?_; (with_reducible refine (spec_lower.calls (bt a0 x3_2) t113 _ A16.out).mono ?_); rintro e w' ⟨rfl, ⟨nd, rfl⟩⟩; refine ⟨_, rfl, ?_⟩))
                      go_ret
                      exact ⟨by first | rfl | (simp; done) | (simp [*]; done), by repeat (first | exact Drawn0.refl _ | apply Drawn0.step)⟩
              · rw [if_neg c14] at H
                exact absurd H (by simp)
            · rw [if_neg c13] at H
              have c13b0 : decide (x3_2 < (a0.size : Int)) = false := decide_eq_false c13
              clear c13
              obtain rfl := Option.some.inj H
              go_wp2
              go_ret
              exact ⟨by first | rfl | (simp; done) | (simp [*]; done), by repeat (first | exact Drawn0.refl _ | apply Drawn0.step)⟩

/-! ### spec_NameOk: function 7 -/
def spec_NameOk.l0 : Nat → ByteArray → List ByteArray → List ByteArray → Int → Int → Option (Bool)
  | 0, _, _, _, _, _ => none
  | k + 1, x0, x3, x9, x10, x11 => if x11 < x10 then (if 0 ≤ x11 then (if x11 < (x9.length : Int) then ((spec_labelOk.f k (rdOf ByteArray.empty x9 x11)).bind fun t118 => (if t118 = true then (spec_NameOk.l0 k x0 x3 x9 x10 (wrap64 (x11 + 1))) else (some false))) else (none)) else (none)) else (if 0 ≤ (wrap64 ((x3.length : Int) - 1)) then (if (wrap64 ((x3.length : Int) - 1)) < (x3.length : Int) then (if 0 < ((rdOf ByteArray.empty x3 (wrap64 ((x3.length : Int) - 1))).size : Int) then ((spec_lower.f (bt (rdOf ByteArray.empty x3 (wrap64 ((x3.length : Int) - 1))) 0)).bind fun t120 => (if (x0.size : Int) ≤ 200 then (if t120 ≥ 97 then (some (decide (t120 ≤ 122))) else (some false)) else (some false))) else (none)) else (none)) else (none))
def spec_NameOk.f (k : Nat) (a0 : ByteArray) : Option (Bool) := (spec_Labels.f k a0).bind fun t114 => (spec_NameOk.l0 k a0 t114 t114 (t114.length : Int) 0)
theorem spec_NameOk.mono_l : ∀ k, (∀ y0 y1 y2 y3 y4, LeO (spec_NameOk.l0 k y0 y1 y2 y3 y4) (spec_NameOk.l0 (k + 1) y0 y1 y2 y3 y4))
  | 0 => fun _ _ _ _ _ r h => by simp [spec_NameOk.l0] at h
  | k + 1 => by
    have ih0 := spec_NameOk.mono_l k
    · intro y0 y1 y2 y3 y4
      unfold spec_NameOk.l0
      repeat' first
      | (with_reducible exact ih0 _ _ _ _ _)
      | (with_reducible exact spec_Labels.mono _ _)
      | (with_reducible exact spec_labelOk.mono _ _)
      | (with_reducible exact LeO.refl _)
      | (with_reducible exact LeO.none _)
      | (with_reducible refine LeO.ite ?_ ?_)
      | (with_reducible refine LeO.bind ?_ (fun _ => ?_))
      | exact ih0 _ _ _ _ _
      | exact spec_Labels.mono _ _
      | exact spec_labelOk.mono _ _
      | exact LeO.none _
      | refine LeO.ite ?_ ?_
      | refine LeO.bind ?_ (fun _ => ?_)
theorem spec_NameOk.mono : ∀ a0 k, LeO (spec_NameOk.f k a0) (spec_NameOk.f (k + 1) a0) := by
  intro a0 k
  have ih0 := spec_NameOk.mono_l k
  unfold spec_NameOk.f
  repeat' first
      | (with_reducible exact ih0 _ _ _ _ _)
      | (with_reducible exact spec_Labels.mono _ _)
      | (with_reducible exact spec_labelOk.mono _ _)
      | (with_reducible exact LeO.refl _)
      | (with_reducible exact LeO.none _)
      | (with_reducible refine LeO.ite ?_ ?_)
      | (with_reducible refine LeO.bind ?_ (fun _ => ?_))
      | exact ih0 _ _ _ _ _
      | exact spec_Labels.mono _ _
      | exact spec_labelOk.mono _ _
      | exact LeO.none _
      | refine LeO.ite ?_ ?_
      | refine LeO.bind ?_ (fun _ => ?_)
set_option maxHeartbeats 8000000 in
set_option maxRecDepth 100000 in
theorem spec_NameOk.calls (k : Nat) (a0 : ByteArray) (r : Bool) (w : World) (h : spec_NameOk.f k a0 = some r) :
    Calls Tryz.prog 7 #[.string a0] w fun e w' => e = .returned (.bool r) ∧ Below w.heap.size w w' := by
  have HB := Aside0.mk (Below.refl w.heap.size w)
  have H : ((spec_Labels.f k a0).bind fun t114 => (spec_NameOk.l0 k a0 t114 t114 (t114.length : Int) 0)) = some r := h
  clear h
  replace H := Option.bind_eq_some_iff.mp H
  obtain ⟨t114, A20, H⟩ := H
  replace H : (spec_NameOk.l0 k a0 t114 t114 (t114.length : Int) 0) = some r := H
  have A2 := Aside0.mk A20
  clear A20
  have H' := Aside0.mk H
  clear H
  go_enter Tryz.func7, Tryz.ntmps7
  go_wp2_with (first | ((with_reducible refine gate_callee (f := 15) rfl ?_); refine goesL_ (some 8) rfl rfl Tryz.func15 (by kernel_rfl) rfl #[.string a0] rfl (by (try simp only [List.map_toArray, List.map_cons, List.map_nil]); first | done | rfl | (simp only [List.length_drop, List.length_take]; rfl)) ?_; (with_reducible refine (spec_Labels.calls k a0 t114 _ A2.out).mono ?_); rintro e w3 ⟨v115, rfl, ho0, hb⟩; refine ⟨_, rfl, ?_⟩; have n0_ := Aside0.mk (Kd.R_lower ho0 (below_size (by repeat (first | (with_reducible first | exact HB.out | apply below_alloc | apply pw_below_drewN | apply below_drew1) | exact HB.out)))); have n1_ := Aside0.mk (below_step (by repeat (first | (with_reducible first | exact HB.out | apply below_alloc | apply pw_below_drewN | apply below_drew1) | exact HB.out)) hb); clear HB; have HO116 := n0_; have HB := n1_; clear n0_ n1_; (try clear hb); (try clear hb2); (try clear hk); (try clear hi); (try clear ho0); obtain ⟨Ao4, co4, eo4⟩ := Kd.R_slice HO116.out; subst eo4))
  go_loopg [11] k (fun kq v11 w' => ∃ (x11_1 : Int), v11 = .int .i64 x11_1 ∧ Aside0 (spec_NameOk.l0 kq a0 t114 t114 (t114.length : Int) x11_1 = some r) ∧ Aside0 (kq ≤ k) ∧ Aside0 (Kd.R Kd.string 9 w' w.heap.size (fun _ => True) (.slice Ao4 t114.length co4) t114) ∧ Aside0 (Kd.R Kd.string 9 w' w.heap.size (fun _ => True) (.slice Ao4 t114.length co4) t114) ∧ Aside0 (Below w.heap.size w w'))
  case atStart => exact ⟨(0), (by first | rfl | (simp; done) | (simp [*]; done)), H', ⟨Nat.le_refl _⟩, ⟨by (with_reducible repeat (first | apply Kd.R_alloc | apply Kd.R_drewN | apply Kd.R_drew)); exact HO116.out⟩, ⟨by (with_reducible repeat (first | apply Kd.R_alloc | apply Kd.R_drewN | apply Kd.R_drew)); exact HO116.out⟩, ⟨by repeat (first | (with_reducible first | exact HB.out | apply below_alloc | apply pw_below_drewN | apply below_drew1) | exact HB.out)⟩⟩
  case round =>
    clear H'
    try clear c1
    try clear p2
    obtain ⟨x11_1, rfl, HA, HK1, HO_3, HO_9, HB⟩ := hrel
    cases gk with
    | zero => exact absurd HA.out (by simp [spec_NameOk.l0])
    | succ k1 =>
      have H := HA.out
      clear HA
      simp only [spec_NameOk.l0] at H
      by_cases c5 : x11_1 < (t114.length : Int)
      · rw [if_pos c5] at H
        have c5b0 : decide (x11_1 < (t114.length : Int)) = true := decide_eq_true c5
        clear c5
        by_cases c6 : 0 ≤ x11_1
        · rw [if_pos c6] at H
          have c6b0 : decide (0 ≤ x11_1) = true := decide_eq_true c6
          clear c6
          by_cases c7 : x11_1 < (t114.length : Int)
          · rw [if_pos c7] at H
            have c7b0 : decide (x11_1 < (t114.length : Int)) = true := decide_eq_true c7
            clear c7
            replace H := Option.bind_eq_some_iff.mp H
            obtain ⟨t118, A80, H⟩ := H
            replace H : (if t118 = true then (spec_NameOk.l0 k1 a0 t114 t114 (t114.length : Int) (wrap64 (x11_1 + 1))) else (some false)) = some r := H
            have A8 := Aside0.mk A80
            clear A80
            by_cases c9 : t118 = true
            · subst c9
              have H1 : (spec_NameOk.l0 k1 a0 t114 t114 (t114.length : Int) (wrap64 (x11_1 + 1))) = some r := by rw [if_pos rfl] at H; exact H
              clear H
              have H := H1
              clear H1
              have H' := Aside0.mk H
              clear H
              have p117 : 0 ≤ (x11_1 : Int) := of_decide_eq_true (by first | (with_reducible assumption) | assumption)
              have q117 : x11_1 < (t114.length : Int) := of_decide_eq_true (by first | (with_reducible assumption) | assumption)
              obtain ⟨ad117, e117, hx117_0⟩ := Kd.at_string (Kd.R_reads' HO_9.out).2.2 x11_1 p117 q117
              cases e117
              replace p117 := eq_true p117
              replace q117 := eq_true q117
              go_wp2_with (first | ((with_reducible refine gate_callee (f := 16) rfl ?_); refine goesL_ (some 16) rfl rfl Tryz.func16 (by kernel_rfl) rfl #[.string (rdOf ByteArray.empty t114 x11_1)] rfl (by (try simp only [List.map_toArray, List.map_cons, List.map_nil]); first | done | rfl | (simp only [List.length_drop, List.length_take]; rfl)) ?_; (with_reducible refine (spec_labelOk.calls k1 (rdOf ByteArray.empty t114 x11_1) true _ A8.out).mono ?_); rintro e w' ⟨rfl, ⟨nd, rfl⟩⟩; refine ⟨_, rfl, ?_⟩))
              go_roundg k1
              case measure => have := HK1.out; omega
              case rel => exact ⟨(wrap64 (x11_1 + 1)), (by first | rfl | (simp; done) | (simp [*]; done)), H', ⟨by have := HK1.out; omega⟩, ⟨by (with_reducible repeat (first | apply Kd.R_alloc | apply Kd.R_drewN | apply Kd.R_drew)); exact HO_3.out⟩, ⟨by (with_reducible repeat (first | apply Kd.R_alloc | apply Kd.R_drewN | apply Kd.R_drew)); exact HO_9.out⟩, ⟨by repeat (first | (with_reducible first | exact HB.out | apply below_alloc | apply pw_below_drewN | apply below_drew1) | exact HB.out)⟩⟩
            · replace c9 := Bool.eq_false_iff.mpr c9
              subst c9
              have H1 : (some false) = some r := by rw [if_neg (show ¬ (false = true) by decide)] at H; exact H
              clear H
              have H := H1
              clear H1
              obtain rfl := Option.some.inj H
              have p117 : 0 ≤ (x11_1 : Int) := of_decide_eq_true (by first | (with_reducible assumption) | assumption)
              have q117 : x11_1 < (t114.length : Int) := of_decide_eq_true (by first | (with_reducible assumption) | assumption)
              obtain ⟨ad117, e117, hx117_0⟩ := Kd.at_string (Kd.R_reads' HO_9.out).2.2 x11_1 p117 q117
              cases e117
              replace p117 := eq_true p117
              replace q117 := eq_true q117
              go_wp2_with (first | ((with_reducible refine gate_callee (f := 16) rfl ?_); refine goesL_ (some 16) rfl rfl Tryz.func16 (by kernel_rfl) rfl #[.string (rdOf ByteArray.empty t114 x11_1)] rfl (by (try simp only [List.map_toArray, List.map_cons, List.map_nil]); first | done | rfl | (simp only [List.length_drop, List.length_take]; rfl)) ?_; (with_reducible refine (spec_labelOk.calls k1 (rdOf ByteArray.empty t114 x11_1) false _ A8.out).mono ?_); rintro e w' ⟨rfl, ⟨nd, rfl⟩⟩; refine ⟨_, rfl, ?_⟩))
              go_ret
              exact ⟨by first | rfl | (simp [errW_none, errW_some] <;> rfl) | (simp [*, errW_none, errW_some] <;> rfl), by repeat (first | (with_reducible first | exact HB.out | apply below_alloc | apply pw_below_drewN | apply below_drew1) | exact HB.out)⟩
          · rw [if_neg c7] at H
            exact absurd H (by simp)
        · rw [if_neg c6] at H
          exact absurd H (by simp)
      · rw [if_neg c5] at H
        have c5b0 : decide (x11_1 < (t114.length : Int)) = false := decide_eq_false c5
        clear c5
        obtain ⟨ji10, hji10⟩ : ∃ j_ : Int, (wrap64 ((t114.length : Int) - 1)) = j_ := ⟨_, rfl⟩
        replace H : (if 0 ≤ (ji10) then (if (ji10) < (t114.length : Int) then (if 0 < ((rdOf ByteArray.empty t114 (ji10)).size : Int) then ((spec_lower.f (bt (rdOf ByteArray.empty t114 (ji10)) 0)).bind fun t120 => (if (a0.size : Int) ≤ 200 then (if t120 ≥ 97 then (some (decide (t120 ≤ 122))) else (some false)) else (some false))) else (none)) else (none)) else (none)) = some r := by first | (rw [hji10] at H; exact H) | (simp only [hji10] at H ⊢; exact H)
        have hji10w : (IntKind.i64.wrap ((t114.length : Int) - 1)) = ji10 := (i64_w _).trans hji10
        by_cases c11 : 0 ≤ (ji10)
        · rw [if_pos c11] at H
          have c11b0 : decide (0 ≤ (ji10)) = true := decide_eq_true c11
          clear c11
          by_cases c12 : (ji10) < (t114.length : Int)
          · rw [if_pos c12] at H
            have c12b0 : decide ((ji10) < (t114.length : Int)) = true := decide_eq_true c12
            clear c12
            by_cases c13 : 0 < ((rdOf ByteArray.empty t114 (ji10)).size : Int)
            · rw [if_pos c13] at H
              have c13b0 : decide (0 < ((rdOf ByteArray.empty t114 (ji10)).size : Int)) = true := decide_eq_true c13
              have c13b1 : decide (0 < (rdOf ByteArray.empty t114 (ji10)).size) = true := decide_eq_true (by omega)
              clear c13
              replace H := Option.bind_eq_some_iff.mp H
              obtain ⟨t120, A150, H⟩ := H
              replace H : (if (a0.size : Int) ≤ 200 then (if t120 ≥ 97 then (some (decide (t120 ≤ 122))) else (some false)) else (some false)) = some r := H
              have A15 := Aside0.mk A150
              clear A150
              by_cases c16 : (a0.size : Int) ≤ 200
              · rw [if_pos c16] at H
                have c16b0 : decide ((a0.size : Int) ≤ 200) = true := decide_eq_true c16
                have c16b1 : decide (a0.size ≤ 200) = true := decide_eq_true (by omega)
                clear c16
                by_cases c17 : t120 ≥ 97
                · rw [if_pos c17] at H
                  have c17b0 : decide (97 ≤ t120) = true := decide_eq_true c17
                  clear c17
                  obtain rfl := Option.some.inj H
                  have p119 : 0 ≤ ((ji10) : Int) := of_decide_eq_true (by first | (with_reducible assumption) | assumption)
                  have q119 : (ji10) < (t114.length : Int) := of_decide_eq_true (by first | (with_reducible assumption) | assumption)
                  obtain ⟨ad119, e119, hx119_0⟩ := Kd.at_string (Kd.R_reads' HO_3.out).2.2 (ji10) p119 q119
                  cases e119
                  replace p119 := eq_true p119
                  replace q119 := eq_true q119
                  have p14 : 0 ≤ (0 : Int) := (by omega)
                  have q14 : 0 < (rdOf ByteArray.empty t114 (ji10)).size := (by have : (0 : Int) < ((rdOf ByteArray.empty t114 (ji10)).size : Int) := of_decide_eq_true (by first | (with_reducible assumption) | assumption); omega)
                  have hx14 : ∀ h : 0 < (rdOf ByteArray.empty t114 (ji10)).size, (((rdOf ByteArray.empty t114 (ji10))[0]'h).toNat : Int) = bt (rdOf ByteArray.empty t114 (ji10)) 0 := bt_at (rdOf ByteArray.empty t114 (ji10)) 0
                  clear p14
                  have qi14 : (0 < ((rdOf ByteArray.empty t114 (ji10)).size : Int)) = True := eq_true (of_decide_eq_true (by first | (with_reducible assumption) | assumption))
                  replace q14 := eq_true q14
                  go_wp2_with (first | ((with_reducible refine gate_callee (f := 17) rfl ?_); refine goesL_ (some 26) rfl rfl Tryz.func17 (by kernel_rfl) rfl #[.int .u8 (bt (rdOf ByteArray.empty t114 (ji10)) 0)] rfl (by (try simp only [List.map_toArray, List.map_cons, List.map_nil]); first | done | (simp only [hji10]; rfl) | rfl | (simp only [List.length_drop, List.length_take]; rfl)) ?_; (with_reducible refine (spec_lower.calls (bt (rdOf ByteArray.empty t114 (ji10)) 0) t120 _ A15.out).mono ?_); rintro e w' ⟨rfl, ⟨nd, rfl⟩⟩; refine ⟨_, rfl, ?_⟩))
                  go_ret
                  exact ⟨by first | rfl | (simp [errW_none, errW_some] <;> rfl) | (simp only [← hji10]; first | rfl | (simp [errW_none, errW_some] <;> rfl)) | (simp [*, errW_none, errW_some] <;> rfl), by repeat (first | (with_reducible first | exact HB.out | apply below_alloc | apply pw_below_drewN | apply below_drew1) | exact HB.out)⟩
                · rw [if_neg c17] at H
                  have c17b0 : decide (97 ≤ t120) = false := decide_eq_false c17
                  clear c17
                  obtain rfl := Option.some.inj H
                  have p119 : 0 ≤ ((ji10) : Int) := of_decide_eq_true (by first | (with_reducible assumption) | assumption)
                  have q119 : (ji10) < (t114.length : Int) := of_decide_eq_true (by first | (with_reducible assumption) | assumption)
                  obtain ⟨ad119, e119, hx119_0⟩ := Kd.at_string (Kd.R_reads' HO_3.out).2.2 (ji10) p119 q119
                  cases e119
                  replace p119 := eq_true p119
                  replace q119 := eq_true q119
                  have p14 : 0 ≤ (0 : Int) := (by omega)
                  have q14 : 0 < (rdOf ByteArray.empty t114 (ji10)).size := (by have : (0 : Int) < ((rdOf ByteArray.empty t114 (ji10)).size : Int) := of_decide_eq_true (by first | (with_reducible assumption) | assumption); omega)
                  have hx14 : ∀ h : 0 < (rdOf ByteArray.empty t114 (ji10)).size, (((rdOf ByteArray.empty t114 (ji10))[0]'h).toNat : Int) = bt (rdOf ByteArray.empty t114 (ji10)) 0 := bt_at (rdOf ByteArray.empty t114 (ji10)) 0
                  clear p14
                  have qi14 : (0 < ((rdOf ByteArray.empty t114 (ji10)).size : Int)) = True := eq_true (of_decide_eq_true (by first | (with_reducible assumption) | assumption))
                  replace q14 := eq_true q14
                  go_wp2_with (first | ((with_reducible refine gate_callee (f := 17) rfl ?_); refine goesL_ (some 26) rfl rfl Tryz.func17 (by kernel_rfl) rfl #[.int .u8 (bt (rdOf ByteArray.empty t114 (ji10)) 0)] rfl (by (try simp only [List.map_toArray, List.map_cons, List.map_nil]); first | done | (simp only [hji10]; rfl) | rfl | (simp only [List.length_drop, List.length_take]; rfl)) ?_; (with_reducible refine (spec_lower.calls (bt (rdOf ByteArray.empty t114 (ji10)) 0) t120 _ A15.out).mono ?_); rintro e w' ⟨rfl, ⟨nd, rfl⟩⟩; refine ⟨_, rfl, ?_⟩))
                  go_ret
                  exact ⟨by first | rfl | (simp [errW_none, errW_some] <;> rfl) | (simp only [← hji10]; first | rfl | (simp [errW_none, errW_some] <;> rfl)) | (simp [*, errW_none, errW_some] <;> rfl), by repeat (first | (with_reducible first | exact HB.out | apply below_alloc | apply pw_below_drewN | apply below_drew1) | exact HB.out)⟩
              · rw [if_neg c16] at H
                have c16b0 : decide ((a0.size : Int) ≤ 200) = false := decide_eq_false c16
                have c16b1 : decide (a0.size ≤ 200) = false := decide_eq_false (by omega)
                clear c16
                obtain rfl := Option.some.inj H
                have p119 : 0 ≤ ((ji10) : Int) := of_decide_eq_true (by first | (with_reducible assumption) | assumption)
                have q119 : (ji10) < (t114.length : Int) := of_decide_eq_true (by first | (with_reducible assumption) | assumption)
                obtain ⟨ad119, e119, hx119_0⟩ := Kd.at_string (Kd.R_reads' HO_3.out).2.2 (ji10) p119 q119
                cases e119
                replace p119 := eq_true p119
                replace q119 := eq_true q119
                have p14 : 0 ≤ (0 : Int) := (by omega)
                have q14 : 0 < (rdOf ByteArray.empty t114 (ji10)).size := (by have : (0 : Int) < ((rdOf ByteArray.empty t114 (ji10)).size : Int) := of_decide_eq_true (by first | (with_reducible assumption) | assumption); omega)
                have hx14 : ∀ h : 0 < (rdOf ByteArray.empty t114 (ji10)).size, (((rdOf ByteArray.empty t114 (ji10))[0]'h).toNat : Int) = bt (rdOf ByteArray.empty t114 (ji10)) 0 := bt_at (rdOf ByteArray.empty t114 (ji10)) 0
                clear p14
                have qi14 : (0 < ((rdOf ByteArray.empty t114 (ji10)).size : Int)) = True := eq_true (of_decide_eq_true (by first | (with_reducible assumption) | assumption))
                replace q14 := eq_true q14
                go_wp2_with (first | ((with_reducible refine gate_callee (f := 17) rfl ?_); refine goesL_ (some 26) rfl rfl Tryz.func17 (by kernel_rfl) rfl #[.int .u8 (bt (rdOf ByteArray.empty t114 (ji10)) 0)] rfl (by (try simp only [List.map_toArray, List.map_cons, List.map_nil]); first | done | (simp only [hji10]; rfl) | rfl | (simp only [List.length_drop, List.length_take]; rfl)) ?_; (with_reducible refine (spec_lower.calls (bt (rdOf ByteArray.empty t114 (ji10)) 0) t120 _ A15.out).mono ?_); rintro e w' ⟨rfl, ⟨nd, rfl⟩⟩; refine ⟨_, rfl, ?_⟩))
                go_ret
                exact ⟨by first | rfl | (simp [errW_none, errW_some] <;> rfl) | (simp only [← hji10]; first | rfl | (simp [errW_none, errW_some] <;> rfl)) | (simp [*, errW_none, errW_some] <;> rfl), by repeat (first | (with_reducible first | exact HB.out | apply below_alloc | apply pw_below_drewN | apply below_drew1) | exact HB.out)⟩
            · rw [if_neg c13] at H
              exact absurd H (by simp)
          · rw [if_neg c12] at H
            exact absurd H (by simp)
        · rw [if_neg c11] at H
          exact absurd H (by simp)

-- NOT PRINTED: function 10 (spec_Of)

/-! ### slices_Index_int_int: function 21 -/
def slices_Index_int_int.l0 : Nat → List Int → Int → Int → Int → Option (Int)
  | 0, _, _, _, _ => none
  | k + 1, x0, x1, x7, x8 => if x8 < x7 then (if 0 ≤ x8 then (if x8 < (x0.length : Int) then (if x1 = (rd x0 x8) then (some x8) else (slices_Index_int_int.l0 k x0 x1 x7 (wrap64 (x8 + 1)))) else (none)) else (none)) else (some (-1))
def slices_Index_int_int.f (k : Nat) (l0 : List Int) (a1 : Int) : Option (Int) := slices_Index_int_int.l0 k l0 a1 (l0.length : Int) 0
theorem slices_Index_int_int.mono_l : ∀ k, (∀ y0 y1 y2 y3, LeO (slices_Index_int_int.l0 k y0 y1 y2 y3) (slices_Index_int_int.l0 (k + 1) y0 y1 y2 y3))
  | 0 => fun _ _ _ _ r h => by simp [slices_Index_int_int.l0] at h
  | k + 1 => by
    have ih0 := slices_Index_int_int.mono_l k
    · intro y0 y1 y2 y3
      unfold slices_Index_int_int.l0
      repeat' first
      | (with_reducible exact ih0 _ _ _ _)
      | (with_reducible exact LeO.refl _)
      | (with_reducible exact LeO.none _)
      | (with_reducible refine LeO.ite ?_ ?_)
      | (with_reducible refine LeO.bind ?_ (fun _ => ?_))
      | exact ih0 _ _ _ _
      | exact LeO.none _
      | refine LeO.ite ?_ ?_
      | refine LeO.bind ?_ (fun _ => ?_)
theorem slices_Index_int_int.mono : ∀ a0 a1 k, LeO (slices_Index_int_int.f k a0 a1) (slices_Index_int_int.f (k + 1) a0 a1) := by
  intro a0 a1 k
  have ih0 := slices_Index_int_int.mono_l k
  unfold slices_Index_int_int.f
  repeat' first
      | (with_reducible exact ih0 _ _ _ _)
      | (with_reducible exact LeO.refl _)
      | (with_reducible exact LeO.none _)
      | (with_reducible refine LeO.ite ?_ ?_)
      | (with_reducible refine LeO.bind ?_ (fun _ => ?_))
      | exact ih0 _ _ _ _
      | exact LeO.none _
      | refine LeO.ite ?_ ?_
      | refine LeO.bind ?_ (fun _ => ?_)
set_option maxHeartbeats 8000000 in
set_option maxRecDepth 100000 in
theorem slices_Index_int_int.calls (k : Nat) (A0 : Option Addr) (c0 : Nat) (l0 : List Int) (a1 : Int) (r : Int) (w : World) (hr0 : Kd.C (Kd.int .i64) w A0 l0.length l0) (hc0 : l0.length ≤ c0) (h : slices_Index_int_int.f k l0 a1 = some r) :
    Calls Tryz.prog 21 #[.slice A0 l0.length c0, .int .i64 a1] w fun e w' => e = .returned (.int .i64 r) ∧ Drawn0 w w' := by
  have HR0 := Aside0.mk hr0
  have HC0 := Aside0.mk hc0
  clear hr0 hc0
  have H : (slices_Index_int_int.l0 k l0 a1 (l0.length : Int) 0) = some r := h
  clear h
  have H' := Aside0.mk H
  clear H
  go_enter Tryz.func21, Tryz.ntmps21
  go_wp2
  go_loopg [8] k (fun kq v8 w' => ∃ (x8_1 : Int), v8 = .int .i64 x8_1 ∧ Aside0 (slices_Index_int_int.l0 kq l0 a1 (l0.length : Int) x8_1 = some r) ∧ Aside0 (kq ≤ k) ∧ Drawn0 w w')
  case atStart => exact ⟨(0), (by first | rfl | (simp; done) | (simp [*]; done)), H', ⟨Nat.le_refl _⟩, by repeat (first | exact Drawn0.refl _ | apply Drawn0.step)⟩
  case round =>
    clear H'
    try clear c2
    try clear p2
    obtain ⟨x8_1, rfl, HA, HK1, ⟨m1, rfl⟩⟩ := hrel
    cases gk with
    | zero => exact absurd HA.out (by simp [slices_Index_int_int.l0])
    | succ k1 =>
      have H := HA.out
      clear HA
      simp only [slices_Index_int_int.l0] at H
      by_cases c3 : x8_1 < (l0.length : Int)
      · rw [if_pos c3] at H
        have c3b0 : decide (x8_1 < (l0.length : Int)) = true := decide_eq_true c3
        clear c3
        by_cases c4 : 0 ≤ x8_1
        · rw [if_pos c4] at H
          have c4b0 : decide (0 ≤ x8_1) = true := decide_eq_true c4
          clear c4
          by_cases c5 : x8_1 < (l0.length : Int)
          · rw [if_pos c5] at H
            have c5b0 : decide (x8_1 < (l0.length : Int)) = true := decide_eq_true c5
            clear c5
            by_cases c6 : a1 = (rd l0 x8_1)
            · rw [if_pos c6] at H
              have c6b0 : (a1 == (rd l0 x8_1)) = true := beq_iff_eq.mpr c6
              have c6b1 : (a1 != (rd l0 x8_1)) = false := bne_eq_false_iff_eq.mpr c6
              clear c6
              obtain rfl := Option.some.inj H
              have p121 : 0 ≤ (x8_1 : Int) := of_decide_eq_true (by first | (with_reducible assumption) | assumption)
              have q121 : x8_1 < (l0.length : Int) := of_decide_eq_true (by first | (with_reducible assumption) | assumption)
              obtain ⟨ad121, e121, hx121_0⟩ := Kd.at_int HR0.out x8_1 p121 q121
              cases e121
              replace p121 := eq_true p121
              replace q121 := eq_true q121
              go_wp2
              go_ret
              exact ⟨by first | rfl | (simp; done) | (simp [*]; done), by repeat (first | exact Drawn0.refl _ | apply Drawn0.step)⟩
            · rw [if_neg c6] at H
              have c6b0 : (a1 == (rd l0 x8_1)) = false := beq_eq_false_iff_ne.mpr c6
              have c6b1 : (a1 != (rd l0 x8_1)) = true := bne_iff_ne.mpr c6
              have H' := Aside0.mk H
              clear H
              have p121 : 0 ≤ (x8_1 : Int) := of_decide_eq_true (by first | (with_reducible assumption) | assumption)
              have q121 : x8_1 < (l0.length : Int) := of_decide_eq_true (by first | (with_reducible assumption) | assumption)
              obtain ⟨ad121, e121, hx121_0⟩ := Kd.at_int HR0.out x8_1 p121 q121
              cases e121
              replace p121 := eq_true p121
              replace q121 := eq_true q121
              go_wp2
              go_roundg k1
              case measure => have := HK1.out; omega
              case rel => exact ⟨(wrap64 (x8_1 + 1)), (by first | rfl | (simp; done) | (simp [*]; done)), H', ⟨by have := HK1.out; omega⟩, by repeat (first | exact Drawn0.refl _ | apply Drawn0.step)⟩
          · rw [if_neg c5] at H
            exact absurd H (by simp)
        · rw [if_neg c4] at H
          exact absurd H (by simp)
      · rw [if_neg c3] at H
        have c3b0 : decide (x8_1 < (l0.length : Int)) = false := decide_eq_false c3
        clear c3
        obtain rfl := Option.some.inj H
        go_wp2
        go_ret
        exact ⟨by first | rfl | (simp; done) | (simp [*]; done), by repeat (first | exact Drawn0.refl _ | apply Drawn0.step)⟩

/-! ### slices_Contains_int_int: function 11 -/
def slices_Contains_int_int.f (k : Nat) (l0 : List Int) (a1 : Int) : Option (Bool) := (slices_Index_int_int.f k l0 a1).bind fun t122 => (some (decide (t122 ≥ 0)))
theorem slices_Contains_int_int.mono : ∀ a0 a1 k, LeO (slices_Contains_int_int.f k a0 a1) (slices_Contains_int_int.f (k + 1) a0 a1) := by
  intro a0 a1 k
  unfold slices_Contains_int_int.f
  repeat' first
      | (with_reducible exact slices_Index_int_int.mono _ _ _)
      | (with_reducible exact LeO.refl _)
      | (with_reducible exact LeO.none _)
      | (with_reducible refine LeO.ite ?_ ?_)
      | (with_reducible refine LeO.bind ?_ (fun _ => ?_))
      | exact slices_Index_int_int.mono _ _ _
      | exact LeO.none _
      | refine LeO.ite ?_ ?_
      | refine LeO.bind ?_ (fun _ => ?_)
set_option maxHeartbeats 8000000 in
set_option maxRecDepth 100000 in
theorem slices_Contains_int_int.calls (k : Nat) (A0 : Option Addr) (c0 : Nat) (l0 : List Int) (a1 : Int) (r : Bool) (w : World) (hr0 : Kd.C (Kd.int .i64) w A0 l0.length l0) (hc0 : l0.length ≤ c0) (h : slices_Contains_int_int.f k l0 a1 = some r) :
    Calls Tryz.prog 11 #[.slice A0 l0.length c0, .int .i64 a1] w fun e w' => e = .returned (.bool r) ∧ Drawn0 w w' := by
  have HR0 := Aside0.mk hr0
  have HC0 := Aside0.mk hc0
  clear hr0 hc0
  have H : ((slices_Index_int_int.f k l0 a1).bind fun t122 => (some (decide (t122 ≥ 0)))) = some r := h
  clear h
  replace H := Option.bind_eq_some_iff.mp H
  obtain ⟨t122, A30, H⟩ := H
  replace H : (some (decide (t122 ≥ 0))) = some r := H
  have A3 := Aside0.mk A30
  clear A30
  obtain rfl := Option.some.inj H
  go_enter Tryz.func11, Tryz.ntmps11
  go_wp2_with (first | ((with_reducible refine gate_callee (f := 21) rfl ?_); refine goesL_ (some 7) rfl rfl Tryz.func21 (by kernel_rfl) rfl #[.slice A0 l0.length c0, .int .i64 a1] rfl (by (try simp only [List.map_toArray, List.map_cons, List.map_nil]); first | done | rfl | (simp only [List.length_drop, List.length_take]; rfl)) ?_; (with_reducible refine (slices_Index_int_int.calls k _ _ l0 a1 t122 _ ?side1 ?side2 A3.out).mono ?_); (case side1 => repeat (first | exact HR0.out | (with_reducible refine Kd.C_alloc ?_ _) | (with_reducible refine Kd.C_drewN ?_ _) | (with_reducible refine Kd.C_drew ?_))); (case side2 => exact HC0.out); rintro e w' ⟨rfl, ⟨nd, rfl⟩⟩; refine ⟨_, rfl, ?_⟩))
  go_ret
  exact ⟨by first | rfl | (simp; done) | (simp [*]; done), by repeat (first | exact Drawn0.refl _ | apply Drawn0.step)⟩

/-! ### laws_answered: function 12 -/
def laws_answered.f (a0 : Int) (a1 : Int) : Option (Bool) := if a1 = 1 then (some (a0 == 1)) else (if a1 = 0 then (some (a0 == 0)) else (some true))
set_option maxHeartbeats 8000000 in
set_option maxRecDepth 100000 in
theorem laws_answered.calls (a0 : Int) (a1 : Int) (r : Bool) (w : World) (h : laws_answered.f a0 a1 = some r) :
    Calls Tryz.prog 12 #[.int .i64 a0, .int .i64 a1] w fun e w' => e = .returned (.bool r) ∧ Drawn0 w w' := by
  have H : (if a1 = 1 then (some (a0 == 1)) else (if a1 = 0 then (some (a0 == 0)) else (some true))) = some r := h
  clear h
  by_cases c3 : a1 = 1
  · rw [if_pos c3] at H
    have c3b0 : (a1 == 1) = true := beq_iff_eq.mpr c3
    have c3b1 : (a1 != 1) = false := bne_eq_false_iff_eq.mpr c3
    clear c3
    obtain rfl := Option.some.inj H
    go_enter Tryz.func12, Tryz.ntmps12
    go_wp2
    go_ret
    exact ⟨by first | rfl | (simp; done) | (simp [*]; done), by repeat (first | exact Drawn0.refl _ | apply Drawn0.step)⟩
  · rw [if_neg c3] at H
    have c3b0 : (a1 == 1) = false := beq_eq_false_iff_ne.mpr c3
    have c3b1 : (a1 != 1) = true := bne_iff_ne.mpr c3
    by_cases c4 : a1 = 0
    · rw [if_pos c4] at H
      have c4b0 : (a1 == 0) = true := beq_iff_eq.mpr c4
      have c4b1 : (a1 != 0) = false := bne_eq_false_iff_eq.mpr c4
      clear c4
      obtain rfl := Option.some.inj H
      go_enter Tryz.func12, Tryz.ntmps12
      go_wp2
      go_ret
      exact ⟨by first | rfl | (simp; done) | (simp [*]; done), by repeat (first | exact Drawn0.refl _ | apply Drawn0.step)⟩
    · rw [if_neg c4] at H
      have c4b0 : (a1 == 0) = false := beq_eq_false_iff_ne.mpr c4
      have c4b1 : (a1 != 0) = true := bne_iff_ne.mpr c4
      obtain rfl := Option.some.inj H
      go_enter Tryz.func12, Tryz.ntmps12
      go_wp2
      go_ret
      exact ⟨by first | rfl | (simp; done) | (simp [*]; done), by repeat (first | exact Drawn0.refl _ | apply Drawn0.step)⟩

end Go.Proofs.YtbnelehiieglbaaGreatDoor.PFnCheckURI
