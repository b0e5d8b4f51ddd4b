/- The reference's functions on names: what each call returns, for texts of at most 2^31 - 1 bytes; memory that was there is as it was. -/
import Derived.Test.YtbnelehiieglbaaGreatDoorE
namespace Go.Proofs.YtbnelehiieglbaaGreatDoor
open Go.RowKit Go.Proofs.YtbnelehiieglbaaGreatDoorW.PrintWords

theorem below_trans {w w1 w2 : World} (h1 : Below w.heap.size w w1) (h2 : Below w1.heap.size w1 w2) : Below w.heap.size w w2 := h1.trans (h2.mono h1.size)

theorem name_calls (s : ByteArray) (w : World) (hs : s.size ≤ 2147483647) :
    Calls Tryz.prog 7 #[.string s] w fun e w' => e = .returned (.bool (Plain.nameOk (L s))) ∧ Below w.heap.size w w' := by
  obtain ⟨k, hk⟩ := NameOk_tells s hs
  exact PFnCheckURI.spec_NameOk.calls k s _ w hk

theorem same_calls (a b : ByteArray) (w : World) (ha : a.size ≤ 2147483647) (hb : b.size ≤ 2147483647) :
    Calls Tryz.prog 20 #[.string a, .string b] w fun e w' => e = .returned (.bool (Plain.same (L a) (L b))) ∧ Below w.heap.size w w' := by
  obtain ⟨k, hk⟩ := Same_tells a b ha hb
  exact PSame.spec_Same.calls k a b _ w hk

theorem L_tail (s : ByteArray) : L (s.extract 1 s.size) = (L s).drop 1 := by
  rw [L_extract, List.take_of_length_le (by rw [L_length]; omega)]
theorem head_is (s : ByteArray) (h : 0 < s.size) : (L s).head? = some s[0] := by rw [List.head?_eq_getElem?, L_get s 0 h]
theorem eq46 (b : UInt8) : ((b.toNat : Int) == 46) = decide (b = 46) := by
  revert b; exact Plain.forall_u8 _ (by decide +kernel)

set_option maxHeartbeats 400000 in
theorem subok_calls (s : ByteArray) (w : World) (hs : s.size ≤ 2147483647) :
    Calls Tryz.prog 18 #[.string s] w fun e w' => e = .returned (.bool (Plain.subOk (L s))) ∧ Below w.heap.size w w' := by
  by_cases h1 : 1 < s.size
  · have hsz : (s.extract 1 s.size).size ≤ 2147483647 := by rw [ByteArray.size_extract]; omega
    have hn := name_calls (s.extract 1 s.size) w hsz
    rw [L_tail s] at hn
    by_cases h2 : s[0] = 46
    · have hv : Plain.subOk (L s) = Plain.nameOk ((L s).drop 1) := by
        unfold Plain.subOk
        rw [head_is s (by omega), h2, L_length, decide_eq_true h1]
        simp
      generalize Plain.nameOk ((L s).drop 1) = r at hn hv
      have HV := Lib.hid hv
      clear hv
      have e2 : ((s[0].toNat : Int) == 46) = true := by rw [eq46, h2]; rfl
      have HN := Lib.hid hn
      clear hn h2
      go_enter Tryz.func18, Tryz.ntmps18
      go_wp2_with (go_at_call 7; refine HN.out.mono ?_; rintro e w' ⟨rfl, hb⟩)
      go_ret
      exact ⟨ret_bool HV.out.symm, by assumption⟩
    · have hv : Plain.subOk (L s) = false := by
        unfold Plain.subOk
        rw [head_is s (by omega)]
        simp [h2]
      have HV := Lib.hid hv
      clear hv
      have e2 : ((s[0].toNat : Int) == 46) = false := by rw [eq46]; exact decide_eq_false h2
      clear hn h2
      go_enter Tryz.func18, Tryz.ntmps18
      go_wp2
      go_ret
      exact ⟨ret_bool HV.out.symm, Below.refl _ _⟩
  · have hv : Plain.subOk (L s) = false := by
      unfold Plain.subOk
      rw [L_length, decide_eq_false h1]
      rfl
    have HV := Lib.hid hv
    clear hv
    go_enter Tryz.func18, Tryz.ntmps18
    go_wp2
    go_ret
    exact ⟨ret_bool HV.out.symm, Below.refl _ _⟩

theorem under_plain (a b : ByteArray) : Plain.under (L a) (L b) =
    (decide (b.size + 1 < a.size) && ((L a)[a.size - b.size - 1]? == some 46) && Plain.same (L (a.extract (a.size - b.size) a.size)) (L b)) := by
  unfold Plain.under
  rw [L_length, L_length, L_extract, List.take_of_length_le (by rw [L_length]; omega)]

set_option maxHeartbeats 400000 in
theorem under_calls (a b : ByteArray) (w : World) (ha : a.size ≤ 2147483647) (hb : b.size ≤ 2147483647) :
    Calls Tryz.prog 19 #[.string a, .string b] w fun e w' => e = .returned (.bool (Plain.under (L a) (L b))) ∧ Below w.heap.size w w' := by
  rw [under_plain]
  by_cases h1 : b.size + 1 < a.size
  · rw [decide_eq_true h1, Bool.true_and, L_get a (a.size - b.size - 1) (by omega)]
    have hsz : (a.extract (a.size - b.size) a.size).size ≤ 2147483647 := by rw [ByteArray.size_extract]; omega
    have hs := same_calls (a.extract (a.size - b.size) a.size) b w hsz hb
    have hlt : a.size - b.size - 1 < a.size := by omega
    by_cases h2 : a[a.size - b.size - 1] = 46
    · have hv : (some a[a.size - b.size - 1] == some 46) = true := by rw [h2]; rfl
      rw [hv, Bool.true_and]
      have hbyte : ((a[a.size - b.size - 1].toNat : Int) == 46) = true := by rw [eq46, h2]; rfl
      have HS := Lib.hid hs
      generalize hr : Plain.same (L (a.extract (a.size - b.size) a.size)) (L b) = r at HS ⊢
      clear hs hr hv h2
      go_enter Tryz.func19, Tryz.ntmps19
      go_wp2_with (go_at_call 20; refine HS.out.mono ?_; rintro e w' ⟨rfl, hb⟩)
      go_ret
      exact ⟨rfl, by assumption⟩
    · have hv : (some a[a.size - b.size - 1] == some 46) = false := by simpa using h2
      rw [hv, Bool.false_and]
      have hbyte : ((a[a.size - b.size - 1].toNat : Int) == 46) = false := by rw [eq46]; exact decide_eq_false h2
      clear hs hv h2
      go_enter Tryz.func19, Tryz.ntmps19
      go_wp2
      go_ret
      exact ⟨rfl, Below.refl _ _⟩
  · rw [decide_eq_false h1, Bool.false_and, Bool.false_and]
    go_enter Tryz.func19, Tryz.ntmps19
    go_wp2
    go_ret
    exact ⟨rfl, Below.refl _ _⟩

set_option maxHeartbeats 400000 in
theorem uri_calls (c h : ByteArray) (w : World) (hc : c.size ≤ 2147483647) (hh : h.size ≤ 2147483647) :
    Calls Tryz.prog 9 #[.string c, .string h] w fun e w' => e = .returned (.int .i64 (Plain.uri (L c) (L h))) ∧ Below w.heap.size w w' := by
  have h18 : ∀ W, Calls Tryz.prog 18 #[.string c] W fun e w' => e = .returned (.bool (Plain.subOk (L c))) ∧ Below W.heap.size W w' := fun W => subok_calls c W hc
  have h7 : ∀ W, Calls Tryz.prog 7 #[.string c] W fun e w' => e = .returned (.bool (Plain.nameOk (L c))) ∧ Below W.heap.size W w' := fun W => name_calls c W hc
  have h20 : ∀ W, Calls Tryz.prog 20 #[.string h, .string c] W fun e w' => e = .returned (.bool (Plain.same (L h) (L c))) ∧ Below W.heap.size W w' := fun W => same_calls h c W hh hc
  have h19 : ∀ W, Calls Tryz.prog 19 #[.string h, .string c] W fun e w' => e = .returned (.bool (Plain.under (L h) (L c))) ∧ Below W.heap.size W w' := fun W => under_calls h c W hh hc
  have hsz : (c.extract 1 c.size).size ≤ 2147483647 := by rw [ByteArray.size_extract]; omega
  have h19t : ∀ W, Calls Tryz.prog 19 #[.string h, .string (c.extract 1 c.size)] W fun e w' => e = .returned (.bool (Plain.under (L h) ((L c).drop 1))) ∧ Below W.heap.size W w' := fun W => by
    have := under_calls h (c.extract 1 c.size) W hh hsz
    rwa [L_tail] at this
  have hlen : Plain.subOk (L c) = true → 1 < c.size := fun hs => by
    unfold Plain.subOk at hs
    simp only [Bool.and_eq_true, decide_eq_true_eq] at hs
    rw [L_length] at hs
    exact hs.1.1
  unfold Plain.uri
  generalize Plain.subOk (L c) = r18 at *
  generalize Plain.nameOk (L c) = r7 at *
  generalize Plain.same (L h) (L c) = r20 at *
  generalize Plain.under (L h) (L c) = r19 at *
  generalize Plain.under (L h) ((L c).drop 1) = rt at *
  have H18 := Lib.hid h18
  have H7 := Lib.hid h7
  have H20 := Lib.hid h20
  have H19 := Lib.hid h19
  have H19t := Lib.hid h19t
  clear h18 h7 h20 h19 h19t hsz
  cases r18
  · clear hlen H19t
    cases r7
    · go_enter Tryz.func9, Tryz.ntmps9
      go_wp2_with (first
        | (go_at_call 18; refine (H18.out _).mono ?_; rintro e w1 ⟨rfl, hb1⟩)
        | (go_at_call 7; refine (H7.out _).mono ?_; rintro e w2 ⟨rfl, hb2⟩))
      go_ret
      exact ⟨rfl, below_trans ‹Below w.heap.size w _› (by assumption)⟩
    · cases r19
      · cases r20
        · go_enter Tryz.func9, Tryz.ntmps9
          go_wp2_with (first
            | (go_at_call 18; refine (H18.out _).mono ?_; rintro e w1 ⟨rfl, hb1⟩)
            | (go_at_call 7; refine (H7.out _).mono ?_; rintro e w2 ⟨rfl, hb2⟩)
            | (go_at_call 19; refine (H19.out _).mono ?_; rintro e w3 ⟨rfl, hb3⟩)
            | (go_at_call 20; refine (H20.out _).mono ?_; rintro e w4 ⟨rfl, hb4⟩))
          go_ret
          exact ⟨rfl, below_trans (below_trans (below_trans (by assumption) (by assumption)) (by assumption)) (by assumption)⟩
        · go_enter Tryz.func9, Tryz.ntmps9
          go_wp2_with (first
            | (go_at_call 18; refine (H18.out _).mono ?_; rintro e w1 ⟨rfl, hb1⟩)
            | (go_at_call 7; refine (H7.out _).mono ?_; rintro e w2 ⟨rfl, hb2⟩)
            | (go_at_call 19; refine (H19.out _).mono ?_; rintro e w3 ⟨rfl, hb3⟩)
            | (go_at_call 20; refine (H20.out _).mono ?_; rintro e w4 ⟨rfl, hb4⟩))
          go_ret
          exact ⟨rfl, below_trans (below_trans (below_trans (by assumption) (by assumption)) (by assumption)) (by assumption)⟩
      · go_enter Tryz.func9, Tryz.ntmps9
        go_wp2_with (first
          | (go_at_call 18; refine (H18.out _).mono ?_; rintro e w1 ⟨rfl, hb1⟩)
          | (go_at_call 7; refine (H7.out _).mono ?_; rintro e w2 ⟨rfl, hb2⟩)
          | (go_at_call 19; refine (H19.out _).mono ?_; rintro e w3 ⟨rfl, hb3⟩))
        go_ret
        exact ⟨rfl, below_trans (below_trans (by assumption) (by assumption)) (by assumption)⟩
  · have hlt : 1 < c.size := hlen rfl
    clear hlen H7 H19 H20
    cases rt
    · go_enter Tryz.func9, Tryz.ntmps9
      go_wp2_with (first
        | (go_at_call 18; refine (H18.out _).mono ?_; rintro e w1 ⟨rfl, hb1⟩)
        | (go_at_call 19; refine (H19t.out _).mono ?_; rintro e w3 ⟨rfl, hb3⟩))
      go_ret
      exact ⟨rfl, below_trans (by assumption) (by assumption)⟩
    · go_enter Tryz.func9, Tryz.ntmps9
      go_wp2_with (first
        | (go_at_call 18; refine (H18.out _).mono ?_; rintro e w1 ⟨rfl, hb1⟩)
        | (go_at_call 19; refine (H19t.out _).mono ?_; rintro e w3 ⟨rfl, hb3⟩))
      go_ret
      exact ⟨rfl, below_trans (by assumption) (by assumption)⟩
end Go.Proofs.YtbnelehiieglbaaGreatDoor
