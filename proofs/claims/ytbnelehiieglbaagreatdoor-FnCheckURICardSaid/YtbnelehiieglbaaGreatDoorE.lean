/- What further printed functions come to, in plain words: texts in lower case, the search in lists, suffixes, domains; each under the bounds that it states. -/
import Derived.Test.YtbnelehiieglbaaGreatDoorD
import Derived.Test.YtbnelehiieglbaaGreatDoorPFnCheckURIx5
import Derived.Test.YtbnelehiieglbaaGreatDoorPFnCheckURIx6
namespace Go.Proofs.YtbnelehiieglbaaGreatDoor
open Go.RowKit Go.Proofs.YtbnelehiieglbaaGreatDoorW.PrintWords

theorem wrp {i : Int} (h0 : -4611686018427387904 ≤ i) (h : i < 4611686018427387904) : wrap64 (i + 1) = i + 1 := by
  unfold wrap64; omega
theorem ofL (s : ByteArray) : (⟨(L s).toArray⟩ : ByteArray) = s := by simp [L]

/-! Lower case -/
theorem strOfNums_bytes (l : List UInt8) : strOfNums (l.map fun b => (b.toNat : Int)) = ⟨l.toArray⟩ := by
  unfold strOfNums
  congr 1
  congr 1
  rw [List.map_map]
  have : ((fun n : Int => UInt8.ofNat n.toNat) ∘ fun b : UInt8 => (b.toNat : Int)) = id := by
    funext b
    simp
  first
    | rw [this, List.map_id]
    | simp
/-- A text in lower case. -/
def lowS (s : ByteArray) : ByteArray := ⟨(Plain.low (L s)).toArray⟩
theorem L_lowS (s : ByteArray) : L (lowS s) = Plain.low (L s) := by simp [L, lowS]
theorem lowS_size (s : ByteArray) : (lowS s).size = s.size := by
  rw [← L_length, L_lowS, Plain.low_length, L_length]

open PSame in
theorem Lower_l0 (s : ByteArray) (hs : s.size ≤ 2147483647) (d : Nat) : ∀ (k i : Nat), i + d = s.size → d < k →
    spec_Lower.l0 k s ((Plain.low ((L s).take i)).map fun b => (b.toNat : Int)) (i : Int) = some (lowS s) := by
  induction d with
  | zero =>
    intro k i hi hk
    obtain ⟨k, rfl⟩ : ∃ m, k = m + 1 := ⟨k - 1, by omega⟩
    simp only [spec_Lower.l0]
    rw [if_neg (by omega), List.take_of_length_le (by rw [L_length]; omega), strOfNums_bytes]
    rfl
  | succ d ih =>
    intro k i hi hk
    obtain ⟨k, rfl⟩ : ∃ m, k = m + 1 := ⟨k - 1, by omega⟩
    have hlt : i < s.size := by omega
    have h := ih k (i + 1) (by omega) (by omega)
    have hlo : spec_lower.f (s[i].toNat : Int) = some ((Plain.lowB s[i]).toNat : Int) := lower_tells s[i]
    simp only [spec_Lower.l0]
    rw [if_pos (by omega), if_pos (by omega), bt_nat s i hlt, wr1 (by omega) (by omega), hlo]
    simp only [Option.bind_some]
    rw [if_pos (by simp [Plain.low]; omega), show ((i : Int) + 1) = ((i + 1 : Nat) : Int) by omega]
    rw [L_take s i hlt] at h
    simpa [Plain.low] using h

open PSame in
theorem Lower_tells (s : ByteArray) (hs : s.size ≤ 2147483647) (k : Nat) (hk : s.size < k) : spec_Lower.f k s = some (lowS s) := by
  have := Lower_l0 s hs s.size k 0 (by omega) hk
  simpa [Plain.low, spec_Lower.f] using this

theorem L_inj {a b : ByteArray} (h : L a = L b) : a = b := by
  rw [← ofL a, ← ofL b, h]

theorem toList_eq (s : ByteArray) : s.toList = L s := ByteArray.toList_eq s

open PSame in
theorem Same_tells (a b : ByteArray) (ha : a.size ≤ 2147483647) (hb : b.size ≤ 2147483647) : ∃ k, spec_Same.f k a b = some (Plain.same (L a) (L b)) := by
  refine ⟨a.size + b.size + 1, ?_⟩
  unfold spec_Same.f
  rw [Lower_tells a ha _ (by omega), Lower_tells b hb _ (by omega)]
  simp only [Option.bind_some]
  unfold Plain.same
  rw [toList_eq, toList_eq, L_lowS, L_lowS]

/-! Lists of whole numbers -/
open Pfound in
theorem found_l0 (l : List Int) (hl : l.length ≤ 2147483647) (d : Nat) : ∀ (k i : Nat), i + d = l.length → d < k → 1 ∉ l.take i →
    spec_found.l0 k (Plain.foundI (l.take i)) l (l.length : Int) (i : Int) = some (Plain.foundI l) := by
  induction d with
  | zero =>
    intro k i hi hk h1
    obtain ⟨k, rfl⟩ : ∃ m, k = m + 1 := ⟨k - 1, by omega⟩
    simp only [spec_found.l0]
    rw [if_neg (by omega), List.take_of_length_le (by omega)]
  | succ d ih =>
    intro k i hi hk h1
    obtain ⟨k, rfl⟩ : ∃ m, k = m + 1 := ⟨k - 1, by omega⟩
    have hlt : i < l.length := by omega
    simp only [spec_found.l0]
    rw [if_pos (by omega), if_pos (by omega), if_pos (by omega), rd_nat l i hlt, wr1 (by omega) (by omega), show ((i : Int) + 1) = ((i + 1 : Nat) : Int) by omega]
    by_cases e1 : l[i] = 1
    · rw [if_pos e1]
      have : 1 ∈ l := by rw [← e1]; exact List.getElem_mem _
      unfold Plain.foundI
      rw [if_pos this]
    · have h1' : 1 ∉ l.take (i + 1) := by
        rw [List.take_succ_eq_append_getElem hlt, List.mem_append, List.mem_singleton]
        rintro (h | h)
        · exact h1 h
        · exact e1 h.symm
      have h := ih k (i + 1) (by omega) (by omega) h1'
      rw [if_neg e1]
      unfold Plain.foundI at h ⊢
      rw [if_neg h1'] at h
      rw [if_neg h1]
      rw [List.take_succ_eq_append_getElem hlt] at h
      simp only [List.mem_append, List.mem_singleton] at h
      by_cases e2 : l[i] = 2
      · rw [if_pos e2]
        rw [if_pos (Or.inr e2.symm)] at h
        exact h
      · rw [if_neg e2]
        have e2' : ¬ 2 = l[i] := fun h => e2 h.symm
        simp only [e2', or_false] at h
        exact h

open Pfound in
theorem found_tells (l : List Int) (hl : l.length ≤ 2147483647) : ∃ k, spec_found.f k l = some (Plain.foundI l) :=
  ⟨l.length + 1, found_l0 l hl l.length _ 0 (by omega) (by omega) (by simp)⟩

open PFnCheckURI in
theorem Index_l0 (l : List Int) (x : Int) (hl : l.length ≤ 2147483647) (d : Nat) : ∀ (k i : Nat), i + d = l.length → d < k →
    ∃ r, slices_Index_int_int.l0 k l x (l.length : Int) (i : Int) = some r ∧ (0 ≤ r ↔ x ∈ l.drop i) := by
  induction d with
  | zero =>
    intro k i hi hk
    obtain ⟨k, rfl⟩ : ∃ m, k = m + 1 := ⟨k - 1, by omega⟩
    refine ⟨-1, ?_, ?_⟩
    · simp only [slices_Index_int_int.l0]
      rw [if_neg (by omega)]
    · rw [List.drop_of_length_le (by omega)]; simp
  | succ d ih =>
    intro k i hi hk
    obtain ⟨k, rfl⟩ : ∃ m, k = m + 1 := ⟨k - 1, by omega⟩
    have hlt : i < l.length := by omega
    simp only [slices_Index_int_int.l0]
    rw [if_pos (by omega), if_pos (by omega), if_pos (by omega), rd_nat l i hlt, wr1 (by omega) (by omega), show ((i : Int) + 1) = ((i + 1 : Nat) : Int) by omega]
    by_cases e : x = l[i]
    · refine ⟨i, by rw [if_pos e], ?_⟩
      constructor
      · intro _
        rw [e, List.drop_eq_getElem_cons hlt]
        exact List.mem_cons_self
      · intro _; omega
    · obtain ⟨r, h1, h2⟩ := ih k (i + 1) (by omega) (by omega)
      refine ⟨r, by rw [if_neg e]; exact h1, ?_⟩
      rw [h2, List.drop_eq_getElem_cons hlt, List.mem_cons]
      simp [e]

open PFnCheckURI in
theorem Contains_tells (l : List Int) (x : Int) (hl : l.length ≤ 2147483647) : ∃ k, slices_Contains_int_int.f k l x = some (decide (x ∈ l)) := by
  obtain ⟨r, h1, h2⟩ := Index_l0 l x hl l.length (l.length + 1) 0 (by omega) (by omega)
  refine ⟨l.length + 1, ?_⟩
  unfold slices_Contains_int_int.f slices_Index_int_int.f
  rw [show (0 : Int) = ((0 : Nat) : Int) from rfl, h1]
  simp only [Option.bind_some]
  rw [List.drop_zero] at h2
  congr 1
  rw [decide_eq_decide]
  exact h2

/-! A text without colons -/
def colon : ByteArray := { data := #[58] }
open PzzContains in
theorem zzIndex_l0 (s : ByteArray) (hs : s.size ≤ 2147483647) (hc : ∀ b ∈ L s, b ≠ 58) (d : Nat) : ∀ (k i : Nat), i + d = s.size → d < k →
    nameconstraints_zzIndex.l0 k s colon (i : Int) = some (-1) := by
  induction d with
  | zero =>
    intro k i hi hk
    obtain ⟨k, rfl⟩ : ∃ m, k = m + 1 := ⟨k - 1, by omega⟩
    have e1 : (colon.size : Int) = 1 := rfl
    simp only [nameconstraints_zzIndex.l0, e1]
    rw [wr1 (by omega) (by omega), if_neg (by omega)]
  | succ d ih =>
    intro k i hi hk
    obtain ⟨k, rfl⟩ : ∃ m, k = m + 1 := ⟨k - 1, by omega⟩
    have hlt : i < s.size := by omega
    have e1 : (colon.size : Int) = 1 := rfl
    have h := ih k (i + 1) (by omega) (by omega)
    simp only [nameconstraints_zzIndex.l0, e1]
    rw [wr1 (by omega) (by omega), if_pos (by omega), if_pos (by omega), if_pos (by omega), show ((i : Int) + 1) = ((i + 1 : Nat) : Int) by omega, Int.toNat_natCast, Int.toNat_natCast]
    rw [if_neg, h]
    intro he
    rw [toList_eq, toList_eq, L_extract, L_take s i hlt, List.drop_append_of_le_length (by rw [List.length_take, L_length]; omega), List.drop_of_length_le (by rw [List.length_take, L_length]; omega)] at he
    have h58 : s[i] = 58 := by
      have : L colon = [58] := rfl
      rw [this] at he
      simpa using he
    exact hc s[i] (by have := L_get s i hlt; exact List.mem_of_getElem? this) h58

open PzzContains in
theorem zzContains_tells (s : ByteArray) (hs : s.size ≤ 2147483647) (hc : ∀ b ∈ L s, b ≠ 58) : ∃ k, nameconstraints_zzContains.f k s colon = some false := by
  refine ⟨s.size + 1, ?_⟩
  have h := zzIndex_l0 s hs hc s.size (s.size + 1) 0 (by omega) (by omega)
  unfold nameconstraints_zzContains.f nameconstraints_zzIndex.f
  rw [show (0 : Int) = ((0 : Nat) : Int) from rfl, h]
  simp

/-! Suffixes -/
theorem lowB_int (x y : UInt8) : Plain.lowB x = Plain.lowB y ↔ lowI x.toNat = lowI y.toNat := by
  rw [lowI_byte, lowI_byte, ← UInt8.toNat_inj]
  omega
theorem fold_byte (x y : UInt8) (X : Option Bool) :
    (if (x.toNat : Int) = (y.toNat : Int) then X else (if (y.toNat : Int) < (x.toNat : Int) then (if 65 ≤ (y.toNat : Int) then (if (y.toNat : Int) ≤ 90 then (if (x.toNat : Int) = (((((y.toNat : Int) + 97) % 256) - 65) % 256) then X else (some false)) else (some false)) else (some false)) else (if 65 ≤ (x.toNat : Int) then (if (x.toNat : Int) ≤ 90 then (if (y.toNat : Int) = (((((x.toNat : Int) + 97) % 256) - 65) % 256) then X else (some false)) else (some false)) else (some false))))
      = if Plain.lowB x = Plain.lowB y then X else some false := by
  have hx := byte_range x
  have hy := byte_range y
  have hi := lowB_int x y
  have hiff : ∀ p : Prop, (lowI x.toNat = lowI y.toNat ↔ p) → (Plain.lowB x = Plain.lowB y ↔ p) := fun p h => hi.trans h
  unfold lowI at hi
  generalize (x.toNat : Int) = A at *
  generalize (y.toNat : Int) = B at *
  by_cases h1 : A = B
  · rw [if_pos h1, if_pos (hi.2 (by rw [h1]))]
  · rw [if_neg h1]
    by_cases h2 : B < A
    · rw [if_pos h2]
      by_cases h3 : 65 ≤ B
      · rw [if_pos h3]
        by_cases h4 : B ≤ 90
        · rw [if_pos h4]
          by_cases h5 : A = (((B + 97) % 256) - 65) % 256
          · rw [if_pos h5, if_pos (hi.2 (by split <;> split <;> omega))]
          · rw [if_neg h5, if_neg (fun h => by have := hi.1 h; split at this <;> split at this <;> omega)]
        · rw [if_neg h4, if_neg (fun h => by have := hi.1 h; split at this <;> split at this <;> omega)]
      · rw [if_neg h3, if_neg (fun h => by have := hi.1 h; split at this <;> split at this <;> omega)]
    · rw [if_neg h2]
      by_cases h3 : 65 ≤ A
      · rw [if_pos h3]
        by_cases h4 : A ≤ 90
        · rw [if_pos h4]
          by_cases h5 : B = (((A + 97) % 256) - 65) % 256
          · rw [if_pos h5, if_pos (hi.2 (by split <;> split <;> omega))]
          · rw [if_neg h5, if_neg (fun h => by have := hi.1 h; split at this <;> split at this <;> omega)]
        · rw [if_neg h4, if_neg (fun h => by have := hi.1 h; split at this <;> split at this <;> omega)]
      · rw [if_neg h3, if_neg (fun h => by have := hi.1 h; split at this <;> split at this <;> omega)]

/-- That the first p bytes of a, and those of b behind sh, are one in lower case. -/
def eqAt (a b : ByteArray) (sh p : Nat) : Bool := Plain.low ((L a).take p) == Plain.low (((L b).drop sh).take p)
theorem eqAt_succ (a b : ByteArray) (sh p : Nat) (ha : p < a.size) (hb : p + sh < b.size) : eqAt a b sh (p + 1) = (decide (Plain.lowB a[p] = Plain.lowB b[p + sh]) && eqAt a b sh p) := by
  unfold eqAt
  have hlen : p < ((L b).drop sh).length := by rw [List.length_drop, L_length]; omega
  have hg : ((L b).drop sh)[p] = b[p + sh] := by
    rw [List.getElem_drop]
    have h := L_get b (p + sh) hb
    rw [List.getElem?_eq_getElem (by rw [L_length]; exact hb)] at h
    have h' := Option.some.inj h
    rw [← h']
    congr 1
    omega
  rw [L_take a p ha, List.take_succ_eq_append_getElem hlen, hg]
  unfold Plain.low
  rw [List.map_append, List.map_append]
  have hl2 : (List.map Plain.lowB ((L a).take p)).length = (List.map Plain.lowB (((L b).drop sh).take p)).length := by
    rw [List.length_map, List.length_map, List.length_take, List.length_take, L_length]
    omega
  rw [Bool.eq_iff_iff]
  simp only [beq_iff_eq, Bool.and_eq_true, decide_eq_true_eq]
  constructor
  · intro h
    have h' := List.append_inj h hl2
    exact ⟨by simpa using h'.2, h'.1⟩
  · rintro ⟨h1, h2⟩
    rw [h2]
    simp [h1]

open PFnCheckURI in
theorem suffix_l0 (a b : ByteArray) (ha : a.size ≤ b.size) (hb : b.size ≤ 1099511627776) (h0 : 0 < a.size) (p : Nat) : ∀ (k : Nat), p ≤ a.size → p < k →
    nameconstraints_dnsHasSuffix.l0 k a b (a.size : Int) (b.size : Int) ((p : Int) - 1) ((a.size : Int) - (b.size : Int)) =
      some (eqAt a b (b.size - a.size) p && (((L a).head? == some 46) || decide (b.size ≤ a.size) || ((L b)[b.size - a.size - 1]? == some 46))) := by
  have e46 : (46 : UInt8).toNat = 46 := rfl
  induction p with
  | zero =>
    intro k hp hk
    obtain ⟨k, rfl⟩ : ∃ m, k = m + 1 := ⟨k - 1, by omega⟩
    have b0 := bt_nat a 0 h0
    simp only [nameconstraints_dnsHasSuffix.l0]
    rw [if_neg (by omega), if_pos (by omega), show bt a 0 = _ from b0]
    have he : eqAt a b (b.size - a.size) 0 = true := by simp [eqAt]
    have hh : (L a).head? = some a[0] := by rw [List.head?_eq_getElem?, L_get a 0 h0]
    rw [he, hh, Bool.true_and]
    by_cases h1 : a[0] = 46
    · rw [if_pos (by rw [h1]; rfl), h1]; simp
    · rw [if_neg (fun h => h1 (UInt8.toNat_inj.1 (by omega)))]
      have h1' : (some a[0] == some 46) = false := by simpa using h1
      rw [h1', Bool.false_or]
      by_cases h2 : b.size ≤ a.size
      · rw [if_neg (by omega), decide_eq_true h2, Bool.true_or]
      · rw [if_pos (by omega), decide_eq_false h2, Bool.false_or]
        have hw : wrap64 (wrap64 ((b.size : Int) - (a.size : Int)) - 1) = ((b.size - a.size - 1 : Nat) : Int) := by
          rw [wrI (i := (b.size : Int) - (a.size : Int)) (by omega) (by omega), wrI (by omega) (by omega)]; omega
        rw [hw, if_pos (by omega), if_pos (by omega), bt_nat b _ (by omega), L_get b _ (by omega)]
        by_cases h3 : b[b.size - a.size - 1]'(by omega) = 46
        · rw [if_pos (by rw [h3]; rfl), h3]; simp
        · rw [if_neg (fun h => h3 (UInt8.toNat_inj.1 (by omega)))]
          simp [h3]
  | succ p ih =>
    intro k hp hk
    obtain ⟨k, rfl⟩ : ∃ m, k = m + 1 := ⟨k - 1, by omega⟩
    have h := ih k (by omega) (by omega)
    have hpa : p < a.size := by omega
    have hq : p + (b.size - a.size) < b.size := by omega
    have e1 : ((p + 1 : Nat) : Int) - 1 = (p : Int) := by omega
    have e2 : wrap64 ((p : Int) - ((a.size : Int) - (b.size : Int))) = ((p + (b.size - a.size) : Nat) : Int) := by
      rw [wrI (by omega) (by omega)]; omega
    have e3 : wrap64 ((p : Int) - 1) = (p : Int) - 1 := wrI (by omega) (by omega)
    simp only [nameconstraints_dnsHasSuffix.l0]
    rw [e1, e2, e3, h, bt_nat a p hpa, bt_nat b _ hq, if_pos (by omega), if_pos (by omega), if_pos (by omega), if_pos (by omega), if_pos (by omega), fold_byte, eqAt_succ a b _ p hpa hq]
    by_cases hc : Plain.lowB a[p] = Plain.lowB b[p + (b.size - a.size)]
    · rw [if_pos hc, decide_eq_true hc, Bool.true_and]
    · rw [if_neg hc, decide_eq_false hc, Bool.false_and, Bool.false_and]

open PFnCheckURI in
theorem suffix_tells (a b : ByteArray) (ha : a.size ≤ 1099511627776) (hb : b.size ≤ 1099511627776) (h0 : 0 < a.size) : ∃ k, nameconstraints_dnsHasSuffix.f k a b = some (Plain.suf (L a) (L b)) := by
  unfold nameconstraints_dnsHasSuffix.f Plain.suf
  rw [L_length, L_length]
  by_cases h : a.size ≤ b.size
  · refine ⟨a.size + 1, ?_⟩
    have hl := suffix_l0 a b h hb h0 a.size (a.size + 1) (Nat.le_refl _) (by omega)
    rw [if_neg (by omega), wrI (by omega) (by omega), wrI (by omega) (by omega), hl, decide_eq_true h, Bool.true_and]
    unfold eqAt
    rw [List.take_of_length_le (by rw [L_length]; omega), List.take_of_length_le (by rw [List.length_drop, L_length]; omega)]
    congr 2
    rw [Bool.beq_comm]
  · refine ⟨0, ?_⟩
    rw [if_pos (by omega), decide_eq_false h, Bool.false_and, Bool.false_and]

/-! Domains -/
theorem labSt_mono (l : List UInt8) : ∀ j n, j ≤ n → n ≤ l.length → ∀ x ∈ (Plain.labSt (l.take j)).1, x ∈ (Plain.labSt (l.take n)).1 := by
  intro j n hjn
  induction n with
  | zero => intro _ x hx; obtain rfl : j = 0 := by omega
            exact hx
  | succ n ih =>
    intro hn x hx
    rcases Nat.lt_or_eq_of_le hjn with h | rfl
    · have := ih (by omega) (by omega) x hx
      rw [List.take_succ_eq_append_getElem (by omega), Plain.labSt_snoc]
      unfold Plain.labStep
      split
      · simp [this]
      · exact this
    · exact hx

/-- Bytes that may stand in a domain, and no label of nothing. -/
def domOk (s : ByteArray) : Prop := (∀ b ∈ L s, 33 ≤ b ∧ b ≤ 126) ∧ ∀ x ∈ Plain.labels (L s), x ≠ []

open PFnCheckURI in
theorem domain_l0 (s : ByteArray) (hs : s.size ≤ 2147483647) (h0 : 0 < s.size) (hd : domOk s) (d : Nat) : ∀ (k i : Nat), i + d = s.size → 3 * d + 8 < k →
    nameconstraints_domainNameValid.l0 k s ((i : Int) - 1 - ((Plain.labSt ((L s).take i)).2.length : Int)) (i : Int) = some true := by
  have e46 : (46 : UInt8).toNat = 46 := rfl
  induction d with
  | zero =>
    intro k i hi hk
    obtain ⟨k, rfl⟩ : ∃ m, k = m + 3 := ⟨k - 3, by omega⟩
    have hend : ∀ x : Int, nameconstraints_domainNameValid.l0 k s x ((i + 1 : Nat) : Int) = some true := fun x => by
      obtain ⟨k, rfl⟩ : ∃ m, k = m + 1 := ⟨k - 1, by omega⟩
      simp only [nameconstraints_domainNameValid.l0]
      rw [if_neg (by omega)]
    have hne : (Plain.labSt (L s)).2 ≠ [] := hd.2 _ (by simp [Plain.labels])
    have hpos : 0 < (Plain.labSt (L s)).2.length := List.length_pos_iff.2 hne
    have hle := (labSt_drop (L s)).2
    rw [L_length] at hle
    have w1 : wrap64 ((i : Int) + 1) = ((i + 1 : Nat) : Int) := by rw [wr1 (by omega) (by omega)]; omega
    rw [List.take_of_length_le (by rw [L_length]; omega)]
    simp only [nameconstraints_domainNameValid.l0, nameconstraints_domainNameValid.j3, nameconstraints_domainNameValid.j4]
    rw [if_pos (by omega), if_neg (by omega), if_neg (by simp), if_pos (by omega), if_pos trivial, w1, hend]
    by_cases h1 : (i : Int) - 1 - ((Plain.labSt (L s)).2.length : Int) ≥ 0
    · rw [if_pos h1, wrp (by omega) (by omega), wrI (by omega) (by omega), if_neg (by omega)]
    · rw [if_neg h1, if_neg (by omega)]
  | succ d ih =>
    intro k i hi hk
    obtain ⟨k, rfl⟩ : ∃ m, k = m + 3 := ⟨k - 3, by omega⟩
    have hlt : i < s.size := by omega
    have h := ih k (i + 1) (by omega) (by omega)
    have hmem : s[i] ∈ L s := List.mem_of_getElem? (L_get s i hlt)
    obtain ⟨b1, b2⟩ := hd.1 _ hmem
    rw [UInt8.le_iff_toNat_le] at b1 b2
    have c33 : (33 : UInt8).toNat = 33 := rfl
    have c126 : (126 : UInt8).toNat = 126 := rfl
    have hst := Plain.labSt_snoc ((L s).take i) s[i]
    rw [← L_take s i hlt] at hst
    unfold Plain.labStep at hst
    have hle := (labSt_drop ((L s).take i)).2
    rw [List.length_take, L_length] at hle
    simp only [nameconstraints_domainNameValid.l0, nameconstraints_domainNameValid.j3, nameconstraints_domainNameValid.j4]
    rw [bt_nat s i hlt, if_pos (by omega), if_pos (by omega), if_pos (by omega), if_neg (by omega), decide_eq_false (by omega), if_neg (by simp), if_neg (by omega), if_pos (by omega), if_pos (by omega)]
    have w1 : wrap64 ((i : Int) + 1) = ((i + 1 : Nat) : Int) := by rw [wr1 (by omega) (by omega)]; omega
    rw [w1]
    by_cases hdot : s[i] = 46
    · rw [if_pos hdot] at hst
      have hm : (Plain.labSt ((L s).take i)).2 ∈ Plain.labels (L s) := by
        have h1 := labSt_mono (L s) (i + 1) s.size (by omega) (by rw [L_length]; omega) (Plain.labSt ((L s).take i)).2 (by rw [hst]; simp)
        rw [List.take_of_length_le (by rw [L_length]; omega)] at h1
        unfold Plain.labels
        rw [List.mem_append]
        exact Or.inl h1
      have hpos : 0 < (Plain.labSt ((L s).take i)).2.length := List.length_pos_iff.2 (hd.2 _ hm)
      rw [hst] at h
      simp only [List.length_nil] at h
      rw [show ((i + 1 : Nat) : Int) - 1 - ((0 : Nat) : Int) = (i : Int) by omega] at h
      clear hst hm
      generalize (Plain.labSt ((L s).take i)).2.length = c at *
      have w2 : wrap64 ((i : Int) - 1 - (c : Int) + 1) = (i : Int) - c := by rw [wrp (by omega) (by omega)]; omega
      have w3 : wrap64 ((i : Int) - ((i : Int) - (c : Int))) = c := by rw [wrI (by omega) (by omega)]; omega
      have e : ((s[i].toNat : Int) == 46) = true := by rw [hdot]; rfl
      rw [h, e, if_pos rfl, w2, w3]
      by_cases h1 : (i : Int) - 1 - (c : Int) ≥ 0
      · rw [if_pos h1, if_neg (by omega)]
      · rw [if_neg h1, if_neg (by omega)]
    · rw [if_neg hdot] at hst
      rw [hst] at h
      simp only [List.length_append, List.length_cons, List.length_nil] at h
      rw [show ((i + 1 : Nat) : Int) - 1 - (((Plain.labSt ((L s).take i)).2.length + (0 + 1) : Nat) : Int) = (i : Int) - 1 - ((Plain.labSt ((L s).take i)).2.length : Int) by omega] at h
      have e : ((s[i].toNat : Int) == 46) = false := by
        rw [beq_eq_false_iff_ne]
        exact fun hh => hdot (UInt8.toNat_inj.1 (by omega))
      rw [e, if_neg Bool.false_ne_true, h]

open PFnCheckURI in
theorem domain_tells (s : ByteArray) (hs : s.size ≤ 2147483647) (h0 : 0 < s.size) (hd : domOk s) : ∃ k, nameconstraints_domainNameValid.f k s false = some true := by
  have e46 : (46 : UInt8).toNat = 46 := rfl
  have hl := domain_l0 s hs h0 hd s.size (3 * s.size + 9) 0 (by omega) (by omega)
  have hw : wrap64 ((s.size : Int) - 1) = ((s.size - 1 : Nat) : Int) := by rw [wrI (by omega) (by omega)]; omega
  have hlast : s[s.size - 1]'(by omega) ≠ 46 := by
    intro h46
    have ht := L_take s (s.size - 1) (by omega)
    rw [show s.size - 1 + 1 = s.size by omega, List.take_of_length_le (by rw [L_length]; omega)] at ht
    have hst := Plain.labSt_snoc ((L s).take (s.size - 1)) (s[s.size - 1]'(by omega))
    rw [← ht] at hst
    unfold Plain.labStep at hst
    rw [if_pos h46] at hst
    exact hd.2 [] (by unfold Plain.labels; rw [hst]; simp) rfl
  refine ⟨3 * s.size + 11, ?_⟩
  unfold nameconstraints_domainNameValid.f
  rw [if_neg (by omega), hw, if_pos (by omega), if_pos (by omega), bt_nat s _ (by omega), if_neg (fun h => hlast (UInt8.toNat_inj.1 (by omega))), if_neg (by simp)]
  simp only [nameconstraints_domainNameValid.j0, nameconstraints_domainNameValid.j1]
  rw [if_neg (by simp)]
  simpa [Plain.labSt] using hl
end Go.Proofs.YtbnelehiieglbaaGreatDoor
