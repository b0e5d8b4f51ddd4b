/- What the printed functions come to, in plain words: names, labels, texts in lower case, sizes; each under the bounds that it states. -/
import Derived.Test.YtbnelehiieglbaaGreatDoorPFnCheckURIx1
import Derived.Test.YtbnelehiieglbaaGreatDoorPFnCheckURIx2
import Derived.Test.YtbnelehiieglbaaGreatDoorPSamex1
import Derived.Test.YtbnelehiieglbaaGreatDoorPfoundx1
import Derived.Test.YtbnelehiieglbaaGreatDoorPzzContainsx1
import Derived.Test.YtbnelehiieglbaaGreatDoorC
namespace Go.Proofs.YtbnelehiieglbaaGreatDoor
open Go.RowKit Go.Proofs.YtbnelehiieglbaaGreatDoorW.PrintWords

/-- A text's bytes. -/
abbrev L (s : ByteArray) : List UInt8 := s.data.toList

theorem wr1 {i : Int} (h0 : 0 ≤ i) (h : i < 4611686018427387904) : wrap64 (i + 1) = i + 1 := by
  unfold wrap64; omega
theorem wrI {i : Int} (h0 : -4611686018427387904 ≤ i) (h : i < 4611686018427387904) : wrap64 i = i := by
  unfold wrap64; omega
theorem bt_nat (s : ByteArray) (i : Nat) (h : i < s.size) : bt s (i : Int) = (s[i].toNat : Int) := by
  rw [← bt_at s (i : Int) (by simpa using h)]
  rfl
theorem L_length (s : ByteArray) : (L s).length = s.size := by simp [L]
theorem L_get (s : ByteArray) (i : Nat) (h : i < s.size) : (L s)[i]? = some s[i] := by
  rw [List.getElem?_eq_getElem (by rw [L_length]; exact h), Array.getElem_toList]; rfl
theorem L_take (s : ByteArray) (k : Nat) (h : k < s.size) : (L s).take (k + 1) = (L s).take k ++ [s[k]] := by
  rw [List.take_succ_eq_append_getElem (by rw [L_length]; exact h), Array.getElem_toList]; rfl
theorem rdOf_nat (d : ByteArray) (l : List ByteArray) (i : Nat) (h : i < l.length) : rdOf d l (i : Int) = l[i] := by
  unfold rdOf
  rw [Int.toNat_natCast, List.getD_eq_getElem?_getD, List.getElem?_eq_getElem h]
  rfl
theorem rd_nat (l : List Int) (i : Nat) (h : i < l.length) : rd l (i : Int) = l[i] := by
  unfold rd
  rw [Int.toNat_natCast, List.getD_eq_getElem?_getD, List.getElem?_eq_getElem h]
  rfl
theorem L_extract (s : ByteArray) (a b : Nat) : L (s.extract a b) = ((L s).take b).drop a := by
  unfold L
  rw [ByteArray.data_extract, Array.toList_extract, List.extract_eq_take_drop]
  rw [List.drop_take]

/-! The sizes -/
open PFnCheckURI in
theorem zzFits1_l0 (l : List ByteArray) (hl : l.length ≤ 2147483647) (d : Nat) : ∀ (k i : Nat), i + d = l.length → d < k →
    laws_zzFits1.l0 k l (l.length : Int) (i : Int) = some ((l.drop i).all fun x => decide (x.size ≤ 2147483647)) := by
  induction d with
  | zero =>
    intro k i hi hk
    obtain ⟨k, rfl⟩ : ∃ m, k = m + 1 := ⟨k - 1, by omega⟩
    simp only [laws_zzFits1.l0]
    rw [if_neg (by omega), List.drop_of_length_le (by omega)]
    rfl
  | succ d ih =>
    intro k i hi hk
    obtain ⟨k, rfl⟩ : ∃ m, k = m + 1 := ⟨k - 1, by omega⟩
    have hlt : i < l.length := by omega
    have h := ih k (i + 1) (by omega) (by omega)
    simp only [laws_zzFits1.l0]
    rw [if_pos (by omega), if_pos (by omega), if_pos (by omega), rdOf_nat _ _ _ hlt, wr1 (by omega) (by omega)]
    rw [show ((i : Int) + 1) = ((i + 1 : Nat) : Int) by omega, h, List.drop_eq_getElem_cons hlt, List.all_cons]
    by_cases hs : (l[i].size : Int) > 2147483647
    · rw [if_pos hs, decide_eq_false (by omega)]; rfl
    · rw [if_neg hs, decide_eq_true (by omega), Bool.true_and]

open PFnCheckURI in
theorem zzFits1_tells (l : List ByteArray) : ∃ k r, laws_zzFits1.f k l = some r ∧ (r = true → l.length ≤ 2147483647 ∧ ∀ x ∈ l, x.size ≤ 2147483647) := by
  by_cases hl : l.length ≤ 2147483647
  · have hf := zzFits1_l0 l hl l.length (l.length + 1) 0 (by omega) (by omega)
    refine ⟨l.length + 1, (l.drop 0).all fun x => decide (x.size ≤ 2147483647), ?_, ?_⟩
    · unfold laws_zzFits1.f
      rw [if_neg (by omega)]
      exact hf
    · intro h
      refine ⟨hl, fun x hx => ?_⟩
      rw [List.drop_zero, List.all_eq_true] at h
      simpa using h x hx
  · exact ⟨0, false, by unfold laws_zzFits1.f; rw [if_pos (by omega)], fun h => by cases h⟩

/-- How many bytes there are in a list. -/
def bytesOf (l : List ByteArray) : Nat := (l.map (·.size)).sum
theorem bytesOf_le (l : List ByteArray) (h : ∀ x ∈ l, x.size ≤ 2147483647) : bytesOf l ≤ l.length * 2147483647 := by
  induction l with
  | nil => simp [bytesOf]
  | cons a r ih =>
    have h1 := ih fun x hx => h x (by simp [hx])
    have h2 := h a (by simp)
    unfold bytesOf at h1 ⊢
    rw [List.map_cons, List.sum_cons, List.length_cons, Nat.succ_mul]
    omega
theorem bytesOf_take (l : List ByteArray) (i : Nat) (h : i < l.length) : bytesOf (l.take (i + 1)) = bytesOf (l.take i) + l[i].size := by
  unfold bytesOf
  rw [List.take_succ_eq_append_getElem h, List.map_append, List.sum_append]
  simp

open PFnCheckURI in
theorem sumTexts_l0 (l : List ByteArray) (hl : l.length ≤ 2147483647) (hb : ∀ x ∈ l, x.size ≤ 2147483647) (d : Nat) : ∀ (k i : Nat), i + d = l.length → d < k →
    laws_sumTexts.l0 k ((l.length + bytesOf (l.take i) : Nat) : Int) l (l.length : Int) (i : Int) = some ((l.length + bytesOf l : Nat) : Int) := by
  induction d with
  | zero =>
    intro k i hi hk
    obtain ⟨k, rfl⟩ : ∃ m, k = m + 1 := ⟨k - 1, by omega⟩
    simp only [laws_sumTexts.l0]
    rw [if_neg (by omega), List.take_of_length_le (by omega)]
  | succ d ih =>
    intro k i hi hk
    obtain ⟨k, rfl⟩ : ∃ m, k = m + 1 := ⟨k - 1, by omega⟩
    have hlt : i < l.length := by omega
    have h := ih k (i + 1) (by omega) (by omega)
    have h2 := bytesOf_take l i hlt
    have h3 := bytesOf_le (l.take (i + 1)) fun x hx => hb x (List.mem_of_mem_take hx)
    have h4 : (l.take (i + 1)).length * 2147483647 ≤ 2147483647 * 2147483647 := Nat.mul_le_mul_right _ (by rw [List.length_take]; omega)
    simp only [laws_sumTexts.l0]
    rw [if_pos (by omega), if_pos (by omega), if_pos (by omega), rdOf_nat _ _ _ hlt, wr1 (by omega) (by omega), wrI (by omega) (by omega)]
    rw [show ((i : Int) + 1) = ((i + 1 : Nat) : Int) by omega, show ((l.length + bytesOf (l.take i) : Nat) : Int) + (l[i].size : Int) = ((l.length + bytesOf (l.take (i + 1)) : Nat) : Int) by omega]
    exact h

open PFnCheckURI in
theorem sumTexts_tells (l : List ByteArray) (hl : l.length ≤ 2147483647) (hb : ∀ x ∈ l, x.size ≤ 2147483647) :
    ∃ k, laws_sumTexts.f k l = some ((l.length + bytesOf l : Nat) : Int) := by
  refine ⟨l.length + 1, ?_⟩
  have h := sumTexts_l0 l hl hb l.length (l.length + 1) 0 (by omega) (by omega)
  have h0 : bytesOf (l.take 0) = 0 := by simp [bytesOf]
  rw [h0] at h
  exact h

open PFnCheckURI in
theorem beyond_tells (a b c : Int) : laws_beyond.f 4 [a, b, c] = some (decide (a > 1048576) || decide (b > 1048576) || decide (c > 1048576)) := by
  have w0 : wrap64 (0 + 1) = 1 := by rw [wr1 (by omega) (by omega)]; rfl
  have w1 : wrap64 (1 + 1) = 2 := by rw [wr1 (by omega) (by omega)]; rfl
  have w2 : wrap64 (2 + 1) = 3 := by rw [wr1 (by omega) (by omega)]; rfl
  have r0 : rd [a, b, c] 0 = a := rfl
  have r1 : rd [a, b, c] 1 = b := rfl
  have r2 : rd [a, b, c] 2 = c := rfl
  have hl : (([a, b, c] : List Int).length : Int) = 3 := rfl
  unfold laws_beyond.f
  simp only [laws_beyond.l0, hl, w0, w1, w2, r0, r1, r2]
  by_cases h1 : a > 1048576 <;> by_cases h2 : b > 1048576 <;> by_cases h3 : c > 1048576 <;> simp [h1, h2, h3]

/-! Labels -/
theorem labSt_suffix (l : List UInt8) : ∃ p, l = p ++ (Plain.labSt l).2 := by
  have key : ∀ n, n ≤ l.length → ∃ p, l.take n = p ++ (Plain.labSt (l.take n)).2 := by
    intro n
    induction n with
    | zero => intro _; exact ⟨[], by simp [Plain.labSt]⟩
    | succ n ih =>
      intro hn
      obtain ⟨p, hp⟩ := ih (by omega)
      rw [List.take_succ_eq_append_getElem (by omega), Plain.labSt_snoc]
      unfold Plain.labStep
      by_cases h : l[n] = 46
      · rw [if_pos h]
        exact ⟨_, by simp; rfl⟩
      · rw [if_neg h]
        refine ⟨p, ?_⟩
        dsimp only
        rw [← List.append_assoc, ← hp]
  have := key l.length (Nat.le_refl _)
  rwa [List.take_length] at this
theorem labSt_drop (l : List UInt8) : (Plain.labSt l).2 = l.drop (l.length - (Plain.labSt l).2.length) ∧ (Plain.labSt l).2.length ≤ l.length := by
  obtain ⟨p, hp⟩ := labSt_suffix l
  have hlen : l.length = p.length + (Plain.labSt l).2.length := by
    have := congrArg List.length hp
    rwa [List.length_append] at this
  refine ⟨?_, by omega⟩
  rw [show l.length - (Plain.labSt l).2.length = p.length by omega]
  have h2 : (p ++ (Plain.labSt l).2).drop p.length = (Plain.labSt l).2 := by simp
  rw [← hp] at h2
  exact h2.symm

open PFnCheckURI in
theorem Labels_l0 (s : ByteArray) (hs : s.size ≤ 2147483647) (d : Nat) : ∀ (k i : Nat) (out : List ByteArray), i + d = s.size → d < k →
    out.map L = (Plain.labSt ((L s).take i)).1 → out.length ≤ i →
    ∃ r, spec_Labels.l0 k s out ((i - (Plain.labSt ((L s).take i)).2.length : Nat) : Int) (i : Int) = some r ∧ r.map L = Plain.labels (L s) ∧ r.length ≤ s.size + 1 := by
  induction d with
  | zero =>
    intro k i out hi hk ho hl
    obtain ⟨k, rfl⟩ : ∃ m, k = m + 1 := ⟨k - 1, by omega⟩
    have htake : (L s).take i = L s := List.take_of_length_le (by rw [L_length]; omega)
    rw [htake] at ho ⊢
    have hd := labSt_drop (L s)
    rw [L_length] at hd
    have hi' : i = s.size := by omega
    subst hi'
    refine ⟨out ++ [s.extract (s.size - (Plain.labSt (L s)).2.length) s.size], ?_, ?_, by simp; omega⟩
    · simp only [spec_Labels.l0]
      rw [if_neg (by omega), if_pos (by omega), if_pos (by omega), if_pos (by omega), Int.toNat_natCast]
    · rw [List.map_append, ho]
      unfold Plain.labels
      congr 1
      rw [List.map_cons, List.map_nil, L_extract, List.take_of_length_le (by rw [L_length]; omega), ← hd.1]
  | succ d ih =>
    intro k i out hi hk ho hl
    obtain ⟨k, rfl⟩ : ∃ m, k = m + 1 := ⟨k - 1, by omega⟩
    have hlt : i < s.size := by omega
    have hd := labSt_drop ((L s).take i)
    have hti : ((L s).take i).length = i := by rw [List.length_take, L_length]; omega
    rw [hti] at hd
    have hst := Plain.labSt_snoc ((L s).take i) s[i]
    rw [← L_take s i hlt] at hst
    unfold Plain.labStep at hst
    simp only [spec_Labels.l0]
    rw [if_pos (by omega), if_pos (by omega), bt_nat s i hlt, wr1 (by omega) (by omega)]
    by_cases h46 : s[i] = 46
    · rw [if_pos h46] at hst
      have h46' : (s[i].toNat : Int) = 46 := by rw [h46]; rfl
      rw [if_pos h46', if_pos (by omega), if_pos (by omega), if_pos (by omega), if_pos (by omega)]
      have h := ih k (i + 1) (out ++ [s.extract (i - (Plain.labSt ((L s).take i)).2.length) i]) (by omega) (by omega) (by
        rw [hst, List.map_append, ho, List.map_cons, List.map_nil, L_extract, ← hd.1]) (by simp; omega)
      rw [hst] at h
      simp only [List.length_nil, Nat.sub_zero] at h
      rw [show ((i : Int) + 1) = ((i + 1 : Nat) : Int) by omega, Int.toNat_natCast, Int.toNat_natCast]
      exact h
    · rw [if_neg h46] at hst
      have h46' : ¬ (s[i].toNat : Int) = 46 := fun h => h46 (UInt8.toNat_inj.1 (by have : (46 : UInt8).toNat = 46 := rfl; omega))
      rw [if_neg h46']
      have h := ih k (i + 1) out (by omega) (by omega) (by rw [hst]; exact ho) (by omega)
      rw [hst] at h
      simp only [List.length_append, List.length_cons, List.length_nil] at h
      rw [show i + 1 - ((Plain.labSt ((L s).take i)).2.length + (0 + 1)) = i - (Plain.labSt ((L s).take i)).2.length by omega] at h
      rw [show ((i : Int) + 1) = ((i + 1 : Nat) : Int) by omega]
      exact h

open PFnCheckURI in
theorem Labels_tells (s : ByteArray) (hs : s.size ≤ 2147483647) (k : Nat) (hk : s.size < k) : ∃ r, spec_Labels.f k s = some r ∧ r.map L = Plain.labels (L s) ∧ r.length ≤ s.size + 1 :=
  Labels_l0 s hs s.size k 0 [] (by omega) hk (by simp [Plain.labSt]) (Nat.le_refl _)

open PFnCheckURI in
theorem lower_tells (b : UInt8) : spec_lower.f (b.toNat : Int) = some ((Plain.lowB b).toNat : Int) := by
  revert b; exact Plain.forall_u8 _ (by decide +kernel)

/-- What a byte of a label is, as a number in lower case. -/
def okI (c : Int) : Bool := (decide (97 ≤ c) && decide (c ≤ 122)) || (decide (48 ≤ c) && decide (c ≤ 57)) || decide (c = 45)
theorem okI_byte (b : UInt8) : okI ((Plain.lowB b).toNat : Int) = Plain.okB b := by
  revert b; exact Plain.forall_u8 _ (by decide +kernel)

open PFnCheckURI in
theorem labelOk_l0 (s : ByteArray) (hs : s.size ≤ 2147483647) (d : Nat) : ∀ (k i : Nat), i + d = s.size → d < k →
    spec_labelOk.l0 k s (i : Int) = some (((L s).drop i).all Plain.okB) := by
  induction d with
  | zero =>
    intro k i hi hk
    obtain ⟨k, rfl⟩ : ∃ m, k = m + 1 := ⟨k - 1, by omega⟩
    simp only [spec_labelOk.l0]
    rw [if_neg (by omega), List.drop_of_length_le (by rw [L_length]; omega)]
    rfl
  | succ d ih =>
    intro k i hi hk
    obtain ⟨k, rfl⟩ : ∃ m, k = m + 1 := ⟨k - 1, by omega⟩
    have hlt : i < s.size := by omega
    have hlt' : i < (L s).length := by rw [L_length]; exact hlt
    have h := ih k (i + 1) (by omega) (by omega)
    have hget : (L s)[i] = s[i] := by rw [Array.getElem_toList]; rfl
    simp only [spec_labelOk.l0]
    rw [if_pos (by omega), if_pos (by omega), bt_nat s i hlt, wr1 (by omega) (by omega), lower_tells, show ((i : Int) + 1) = ((i + 1 : Nat) : Int) by omega, h]
    rw [List.drop_eq_getElem_cons hlt', List.all_cons, hget, ← okI_byte]
    simp only [Option.bind_some]
    generalize ((Plain.lowB s[i]).toNat : Int) = c
    generalize (List.drop (i + 1) (L s)).all Plain.okB = rest
    unfold okI
    by_cases h1 : c ≥ 97 <;> by_cases h2 : c ≤ 122 <;> by_cases h3 : c ≥ 48 <;> by_cases h4 : c ≤ 57 <;> by_cases h5 : c = 45 <;>
      first
        | (exfalso; omega)
        | simp [h1, h2, h3, h4, h5]

open PFnCheckURI in
theorem labelOk_tells (s : ByteArray) (hs : s.size ≤ 2147483647) (k : Nat) (hk : s.size + 1 < k) : spec_labelOk.f k s = some (Plain.labelOk (L s)) := by
  obtain ⟨k, rfl⟩ : ∃ m, k = m + 1 := ⟨k - 1, by omega⟩
  unfold spec_labelOk.f Plain.labelOk
  have hl := L_length s
  rw [hl]
  by_cases h1 : (s.size : Int) < 1
  · rw [if_pos h1, decide_eq_false (by omega)]
    simp [spec_labelOk.j0]
  rw [if_neg h1, decide_eq_true (by omega)]
  by_cases h2 : (s.size : Int) > 63
  · rw [if_pos h2, decide_eq_false (by omega)]
    simp [spec_labelOk.j0]
  rw [if_neg h2, decide_eq_true (by omega), if_pos (by omega)]
  have b0 := bt_nat s 0 (by omega)
  have hh : (L s).head? = some (s[0]'(by omega)) := by rw [List.head?_eq_getElem?, L_get s 0 (by omega)]
  have hla : (L s).getLast? = some (s[s.size - 1]'(by omega)) := by rw [List.getLast?_eq_getElem?, hl, L_get s _ (by omega)]
  have hw : wrap64 ((s.size : Int) - 1) = ((s.size - 1 : Nat) : Int) := by rw [wrI (by omega) (by omega)]; omega
  have b1 := bt_nat s (s.size - 1) (by omega)
  rw [hh, hla, hw, b1, show bt s 0 = _ from b0]
  have e45 : (45 : UInt8).toNat = 45 := rfl
  by_cases h3 : s[0] = 45
  · rw [if_pos (by rw [h3]; rfl), h3]
    simp [spec_labelOk.j0]
  · have h3' : ¬ ((s[0]'(by omega)).toNat : Int) = 45 := fun h => h3 (UInt8.toNat_inj.1 (by omega))
    rw [if_neg h3', if_pos (by omega), if_pos (by omega)]
    have hl0 := labelOk_l0 s hs s.size k 0 (by omega) (by omega)
    by_cases h4 : s[s.size - 1] = 45
    · have h4' : (((s[s.size - 1]'(by omega)).toNat : Int) == 45) = true := by rw [h4]; rfl
      rw [h4', h4]
      simp [spec_labelOk.j0]
    · have h4' : (((s[s.size - 1]'(by omega)).toNat : Int) == 45) = false := by
        rw [beq_eq_false_iff_ne]
        exact fun h => h4 (UInt8.toNat_inj.1 (by omega))
      rw [h4']
      simp only [spec_labelOk.j0, Bool.false_eq_true, if_false]
      rw [show (0 : Int) = ((0 : Nat) : Int) from rfl, hl0]
      simp [h3, h4]

open PFnCheckURI in
theorem NameOk_l0 (s : ByteArray) (hs : s.size ≤ 2147483647) (ls : List ByteArray) (hls : ls.map L = Plain.labels (L s)) (hn : ls.length ≤ s.size + 1) (hK : ∀ x ∈ ls, x.size ≤ s.size) (d : Nat) :
    ∀ (k i : Nat), i + d = ls.length → d + s.size + 2 < k → (∀ x ∈ ls.take i, Plain.labelOk (L x) = true) →
    spec_NameOk.l0 k s ls ls (ls.length : Int) (i : Int) = some (((ls.drop i).all fun x => Plain.labelOk (L x)) && decide (s.size ≤ 200) && Plain.firstLetter (Plain.labSt (L s)).2) := by
  induction d with
  | zero =>
    intro k i hi hk hall
    obtain ⟨k, rfl⟩ : ∃ m, k = m + 1 := ⟨k - 1, by omega⟩
    have hpos : 0 < ls.length := by
      have := congrArg List.length hls
      simp [Plain.labels] at this
      omega
    have hw : wrap64 ((ls.length : Int) - 1) = ((ls.length - 1 : Nat) : Int) := by rw [wrI (by omega) (by omega)]; omega
    have hlast : L (ls[ls.length - 1]'(by omega)) = (Plain.labSt (L s)).2 := by
      have h1 : (ls.map L)[ls.length - 1]? = some (L (ls[ls.length - 1]'(by omega))) := by
        rw [List.getElem?_map, List.getElem?_eq_getElem (by omega)]; rfl
      rw [hls] at h1
      unfold Plain.labels at h1
      have h2 : (Plain.labSt (L s)).1.length = ls.length - 1 := by
        have := congrArg List.length hls
        simp [Plain.labels] at this
        omega
      rw [List.getElem?_append_right (by omega), h2, Nat.sub_self] at h1
      rw [List.getElem?_cons_zero] at h1
      exact (Option.some.inj h1).symm
    have hok : Plain.labelOk (L (ls[ls.length - 1]'(by omega))) = true := by
      refine hall _ ?_
      rw [List.take_of_length_le (by omega)]
      exact List.getElem_mem _
    have hsz : 0 < (ls[ls.length - 1]'(by omega)).size := by
      unfold Plain.labelOk at hok
      simp only [Bool.and_eq_true, decide_eq_true_eq] at hok
      have := hok.1.1.1.1
      rw [L_length] at this
      omega
    simp only [spec_NameOk.l0]
    rw [if_neg (by omega), hw, if_pos (by omega), if_pos (by omega), rdOf_nat _ _ _ (by omega), if_pos (by omega)]
    have b0 := bt_nat (ls[ls.length - 1]'(by omega)) 0 hsz
    rw [show bt (ls[ls.length - 1]'(by omega)) 0 = _ from b0, lower_tells]
    have hfl : Plain.firstLetter (Plain.labSt (L s)).2 = Plain.letter ((ls[ls.length - 1]'(by omega))[0]'hsz) := by
      unfold Plain.firstLetter
      rw [← hlast, List.head?_eq_getElem?, L_get _ 0 hsz]
    rw [hfl, List.drop_of_length_le (by omega)]
    simp only [Option.bind_some, List.all_nil, Bool.true_and]
    generalize (ls[ls.length - 1]'(by omega))[0]'hsz = b
    have hb : Plain.letter b = (decide ((97 : Int) ≤ ((Plain.lowB b).toNat : Int)) && decide (((Plain.lowB b).toNat : Int) ≤ 122)) := by
      revert b; exact Plain.forall_u8 _ (by decide +kernel)
    rw [hb]
    by_cases h2 : (s.size : Int) ≤ 200
    · rw [if_pos h2, decide_eq_true (show s.size ≤ 200 by omega), Bool.true_and]
      by_cases h3 : ((Plain.lowB b).toNat : Int) ≥ 97
      · rw [if_pos h3, decide_eq_true (show (97 : Int) ≤ ((Plain.lowB b).toNat : Int) from h3), Bool.true_and]
      · rw [if_neg h3, decide_eq_false (show ¬ (97 : Int) ≤ ((Plain.lowB b).toNat : Int) from h3), Bool.false_and]
    · rw [if_neg h2, decide_eq_false (show ¬ s.size ≤ 200 by omega), Bool.false_and]
  | succ d ih =>
    intro k i hi hk hall
    obtain ⟨k, rfl⟩ : ∃ m, k = m + 1 := ⟨k - 1, by omega⟩
    have hlt : i < ls.length := by omega
    have hsz := hK ls[i] (List.getElem_mem _)
    simp only [spec_NameOk.l0]
    rw [if_pos (by omega), if_pos (by omega), if_pos (by omega), rdOf_nat _ _ _ hlt, labelOk_tells _ (by omega) k (by omega), wr1 (by omega) (by omega), show ((i : Int) + 1) = ((i + 1 : Nat) : Int) by omega]
    rw [List.drop_eq_getElem_cons hlt, List.all_cons]
    simp only [Option.bind_some]
    by_cases hx : Plain.labelOk (L ls[i]) = true
    · have h := ih k (i + 1) (by omega) (by omega) (fun x hx' => by
        rw [List.take_succ_eq_append_getElem hlt, List.mem_append, List.mem_singleton] at hx'
        rcases hx' with hx' | rfl
        · exact hall x hx'
        · exact hx)
      rw [if_pos hx, h, hx, Bool.true_and]
    · rw [if_neg hx]
      have hx' : Plain.labelOk (L ls[i]) = false := by simpa using hx
      rw [hx', Bool.false_and, Bool.false_and, Bool.false_and]

theorem labSt_len (l : List UInt8) : (∀ x ∈ (Plain.labSt l).1, x.length ≤ l.length) := by
  have key : ∀ n, n ≤ l.length → (∀ x ∈ (Plain.labSt (l.take n)).1, x.length ≤ n) ∧ (Plain.labSt (l.take n)).2.length ≤ n := by
    intro n
    induction n with
    | zero => intro _; simp [Plain.labSt]
    | succ n ih =>
      intro hn
      obtain ⟨h1, h2⟩ := ih (by omega)
      rw [List.take_succ_eq_append_getElem (by omega), Plain.labSt_snoc]
      unfold Plain.labStep
      by_cases h : l[n] = 46
      · rw [if_pos h]
        refine ⟨fun x hx => ?_, by simp⟩
        rw [List.mem_append, List.mem_singleton] at hx
        rcases hx with hx | rfl
        · have := h1 x hx; omega
        · omega
      · rw [if_neg h]
        exact ⟨fun x hx => by have := h1 x hx; omega, by simp; omega⟩
  have := (key l.length (Nat.le_refl _)).1
  rwa [List.take_length] at this
theorem labels_len (l : List UInt8) : ∀ x ∈ Plain.labels l, x.length ≤ l.length := by
  intro x hx
  unfold Plain.labels at hx
  rw [List.mem_append, List.mem_singleton] at hx
  rcases hx with hx | rfl
  · exact labSt_len l x hx
  · exact (labSt_drop l).2

open PFnCheckURI in
theorem NameOk_tells (s : ByteArray) (hs : s.size ≤ 2147483647) : ∃ k, spec_NameOk.f k s = some (Plain.nameOk (L s)) := by
  obtain ⟨r, h1, h2, h3⟩ := Labels_tells s hs (2 * s.size + 5) (by omega)
  refine ⟨2 * s.size + 5, ?_⟩
  unfold spec_NameOk.f
  rw [h1]
  simp only [Option.bind_some]
  have hK : ∀ x ∈ r, x.size ≤ s.size := by
    intro x hx
    have hm : L x ∈ Plain.labels (L s) := by rw [← h2]; exact List.mem_map_of_mem hx
    have := labels_len (L s) _ hm
    rwa [L_length, L_length] at this
  have h := NameOk_l0 s hs r h2 h3 hK r.length (2 * s.size + 5) 0 (by omega) (by omega) (by simp)
  rw [show (0 : Int) = ((0 : Nat) : Int) from rfl, h]
  unfold Plain.nameOk
  rw [List.drop_zero, ← h2, L_length, List.all_map]
  rfl
end Go.Proofs.YtbnelehiieglbaaGreatDoor
