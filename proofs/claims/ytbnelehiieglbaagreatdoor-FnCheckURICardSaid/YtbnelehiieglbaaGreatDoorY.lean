/- The thin package's check of a host: what the call returns. What the host and the constraints are, where the rule speaks; the code's answer is the rule's. -/
import Derived.Test.YtbnelehiieglbaaGreatDoorV
namespace Go.Proofs.YtbnelehiieglbaaGreatDoor
open Go.RowKit Go.Proofs.YtbnelehiieglbaaGreatDoorW.PrintWords

theorem info9 : (Tryz.prog.info? 9).map (fun i => (i.zero, i.size, i.bytes)) = some (some (.string ByteArray.empty), 1, 16) := by kernel_rfl

set_option maxRecDepth 100000 in
set_option maxHeartbeats 1000000 in
theorem uri_code_calls (A1 A2 : Option Addr) (k1 k2 : Nat) (lp lx : List Str) (host : ByteArray) (s : Str) (w : World) (hs : s.1 = lowS host) (hh : Host host) (h1 : Kd.C Kd.string w A1 lp.length (lp.map (·.1))) (h2 : Kd.C Kd.string w A2 lx.length (lx.map (·.1)))
    (hl1 : lp.length ≤ 50) (hl2 : lx.length ≤ 50) (hstar : (L s.1).head? ≠ some 42) (hd : domOk s.1) :
    Calls Tryz.prog 13 #[.slice A1 lp.length k1, .slice A2 lx.length k2, .string host] w fun e w' => e = .returned (.int .i64 (if refuses lp lx s then 1 else 0)) ∧ RowKit.Below w.heap.size w w' := by
  have hzz := fun v1 v2 w (h1 : IsList w v1 lp) (h2 : IsList w v2 lx) => zz_calls v1 v2 lp lx host s w hs hh h1 h2 hl1 hl2 hstar hd
  have HZZ := Aside0.mk hzz
  have H1 := Aside0.mk h1
  have H2 := Aside0.mk h2
  clear hzz h1 h2 hh hstar hd
  generalize refuses lp lx s = rf at *
  go_enter Tryz.func13, Tryz.ntmps13
  go_wp2_with (first
    | ((with_reducible refine gate_builtin (b := .append) (xs := #[.const (.slice none 0 0), .tmp 7]) rfl ?_); at_builtin; refine Kd.R_append_rows Kd.string (Rr := Kd.string.K w) (w0 := w) w.heap.size rfl (.const (.slice none 0 0)) (.tmp 7) 22 9 (.string ByteArray.empty) 16 rfl Tryz.underlying22 info9 rfl (by decide) (by omega) (.slice none 0 0) [] (lp.map (·.1)) A1 lp.length k1 (fun _ => True) (fun _ => False) rfl rfl (Kd.R_nil _ _ _ _ _) (show ReadsRow (Kd.string.K w) Kd.string.sz w A1 lp.length (lp.map (fun x => x.1)) from H1.out) (fun _ _ h => h) (fun _ hk => hk.elim) (fun _ _ => trivial) (RowKit.Below.refl _ _) (Nat.le_refl _) (by simp; omega) ?_; intro v1 w1 ho1 hb1 hg1 hat1; clear hg1 hat1; have HO1 := Aside0.mk (list_of_R ho1); have HB1 := Aside0.mk hb1; clear ho1 hb1; have H2' := Aside0.mk (Kd.C_below H2.out HB1.out))
    | ((with_reducible refine gate_builtin (b := .append) (xs := #[.const (.slice none 0 0), .tmp 9]) rfl ?_); at_builtin; refine Kd.R_append_rows Kd.string (Rr := Kd.string.K w1) (w0 := w) w.heap.size rfl (.const (.slice none 0 0)) (.tmp 9) 22 9 (.string ByteArray.empty) 16 rfl Tryz.underlying22 info9 rfl (by decide) (by omega) (.slice none 0 0) [] (lx.map (·.1)) A2 lx.length k2 (fun _ => True) (fun _ => False) rfl rfl (Kd.R_nil _ _ _ _ _) (show ReadsRow (Kd.string.K w1) Kd.string.sz w1 A2 lx.length (lx.map (fun x => x.1)) from H2'.out) (fun _ _ h => h) (fun _ hk => hk.elim) (fun _ _ => trivial) HB1.out HB1.out.size (by simp; omega) ?_; intro v2 w2 ho2 hb2 hg2 hat2; have HG2 := Aside0.mk hg2; clear hg2 hat2; have HO2 := Aside0.mk (list_of_R ho2); have HB2 := Aside0.mk hb2; clear ho2 hb2))
  have hb12 : RowKit.Below w1.heap.size w1 w2 := Below.grown (RowKit.Below.refl _ _) HG2.out (Nat.le_refl _) (fun k hk => by simp [Value.ownBlock] at hk)
  refine (HZZ.out v1 v2 w2 (HO1.out.below hb12) HO2.out).mono ?_
  clear hb12 HO1 HO2 HG2 HZZ H1 H2 H2' HB1
  rintro e w3 ⟨hb3, ha⟩
  have HB3 := Aside0.mk (HB2.out.trans (hb3.mono HB2.out.size))
  clear hb3 HB2
  rcases ha with ⟨rfl, rfl⟩ | ⟨rfl, E, t, rfl, ht, hr⟩
  · go_wp2_with fail
    refine (codeOf_nil w3).mono ?_
    rintro e w4 ⟨rfl, rfl⟩
    go_wp2_with fail
    go_ret
    exact ⟨rfl, HB3.out⟩
  · have HC := Aside0.mk (codeOf_refused t E w3 ht hr)
    clear ht hr
    go_wp2_with fail
    refine HC.out.mono ?_
    rintro e w4 ⟨rfl, rfl⟩
    go_wp2_with fail
    go_ret
    exact ⟨rfl, HB3.out⟩
end Go.Proofs.YtbnelehiieglbaaGreatDoor
namespace Go.Proofs.YtbnelehiieglbaaGreatDoor.Plain

theorem okB_low (b : UInt8) : okB (lowB b) = okB b := by unfold okB; rw [lowB_lowB]
theorem low_mem {l : List UInt8} {x : UInt8} (h : x ∈ low l) : ∃ b ∈ l, lowB b = x := by
  simp only [low, List.mem_map] at h
  exact h
/-- A name's bytes, in lower case. -/
theorem low_bytes {s : List UInt8} (h : nameOk s = true) : ∀ b ∈ low s, b = 46 ∨ okB b = true := by
  intro x hx
  obtain ⟨b, hb, rfl⟩ := low_mem hx
  rcases name_bytes h b hb with rfl | hk
  · exact Or.inl rfl
  · exact Or.inr (by rw [okB_low]; exact hk)
/-- What the bytes of a name, in lower case, are not. -/
theorem low_facts {s : List UInt8} (h : nameOk s = true) : ∀ b ∈ low s, 33 ≤ b ∧ b ≤ 126 ∧ b ≠ 0 ∧ b ≠ 58 ∧ b ≠ 37 ∧ b ≠ 91 ∧ b ≠ 42 ∧ b < 128 := by
  intro b hb
  rcases low_bytes h b hb with rfl | hk
  · decide
  · obtain ⟨h1, h2, h3, _, h5, h6, h7, h8, h9⟩ := okB_facts b hk
    exact ⟨h1, h2, h3, h5, h6, h7, h8, h9⟩
theorem name_facts {s : List UInt8} (h : nameOk s = true) : ∀ b ∈ s, b ≠ 0 ∧ b < 128 := by
  intro b hb
  rcases name_bytes h b hb with rfl | hk
  · decide
  · exact ⟨(okB_facts b hk).2.2.1, (okB_facts b hk).2.2.2.2.2.2.2.2⟩

/-- A constraint's bytes, where it is spoken of. -/
theorem uri_bytes {c host : List UInt8} (ho : uri c host ≠ 2) : ∀ b ∈ c, b ≠ 0 ∧ b < 128 := by
  by_cases hs : subOk c = true
  · unfold subOk at hs
    simp only [Bool.and_eq_true, decide_eq_true_eq, beq_iff_eq] at hs
    obtain ⟨⟨_, hhead⟩, hname⟩ := hs
    cases c with
    | nil => simp at hhead
    | cons x d =>
      simp at hhead
      subst hhead
      simp only [List.drop_succ_cons, List.drop_zero] at hname
      intro b hb
      rw [List.mem_cons] at hb
      rcases hb with rfl | hb
      · decide
      · exact name_facts hname b hb
  · unfold uri at ho
    rw [if_neg hs] at ho
    by_cases hn : nameOk c = true
    · exact name_facts hn
    · simp [hn] at ho

theorem lab_low : ∀ (l : List UInt8) (p : List (List UInt8)) (q : List UInt8), (low l).foldl labStep (p.map low, low q) = (((l.foldl labStep (p, q)).1).map low, low (l.foldl labStep (p, q)).2)
  | [], p, q => rfl
  | b :: l, p, q => by
    simp only [low, List.map_cons, List.foldl_cons]
    have ih := lab_low l
    simp only [low] at ih
    by_cases h : b = 46
    · subst h
      have e1 : labStep (List.map (fun x => List.map lowB x) p, List.map lowB q) (lowB 46) = ((p ++ [q]).map (fun x => List.map lowB x), []) := by
        rw [show lowB 46 = 46 from rfl]; simp [labStep]
      have e2 : labStep (p, q) 46 = (p ++ [q], []) := by simp [labStep]
      have := ih (p ++ [q]) []
      rw [List.map_nil] at this
      change List.foldl labStep (labStep (List.map (fun x => List.map lowB x) p, List.map lowB q) (lowB 46)) _ = _
      rw [e1, e2]
      exact this
    · have hb : lowB b ≠ 46 := fun e => h ((lowB_dot b).1 e)
      have e1 : labStep (List.map (fun x => List.map lowB x) p, List.map lowB q) (lowB b) = (p.map (fun x => List.map lowB x), (q ++ [b]).map lowB) := by simp [labStep, hb]
      have e2 : labStep (p, q) b = (p, q ++ [b]) := by simp [labStep, h]
      have := ih p (q ++ [b])
      change List.foldl labStep (labStep (List.map (fun x => List.map lowB x) p, List.map lowB q) (lowB b)) _ = _
      rw [e1, e2]
      exact this

theorem labels_low (l : List UInt8) : labels (low l) = (labels l).map low := by
  have h : (low l).foldl labStep ([], []) = (((l.foldl labStep ([], [])).1).map low, low (l.foldl labStep ([], [])).2) := lab_low l [] []
  unfold labels labSt
  rw [h]
  simp

theorem last_mem : ∀ (l : List UInt8) (p : List (List UInt8)) (q : List UInt8), ∀ b ∈ (l.foldl labStep (p, q)).2, b ∈ q ∨ b ∈ l
  | [], p, q => fun b hb => Or.inl hb
  | x :: l, p, q => by
    intro b hb
    rw [List.foldl_cons] at hb
    unfold labStep at hb
    split at hb
    · rcases last_mem l _ _ b hb with h | h
      · simp at h
      · exact Or.inr (List.mem_cons_of_mem _ h)
    · rcases last_mem l _ _ b hb with h | h
      · rw [List.mem_append, List.mem_singleton] at h
        rcases h with h | rfl
        · exact Or.inl h
        · exact Or.inr List.mem_cons_self
      · exact Or.inr (List.mem_cons_of_mem _ h)

/-- A name has a letter. -/
theorem name_letter {s : List UInt8} (h : nameOk s = true) : ∃ b ∈ s, letter b = true := by
  unfold nameOk at h
  simp only [Bool.and_eq_true] at h
  have h2 := h.2
  unfold firstLetter at h2
  split at h2
  · rename_i b hb
    refine ⟨b, ?_, h2⟩
    have hm : b ∈ (labSt s).2 := by
      cases hq : (labSt s).2 with
      | nil => rw [hq] at hb; simp at hb
      | cons y ys => rw [hq] at hb; simp at hb; rw [hb]; exact List.mem_cons_self
    rcases last_mem s [] [] b hm with h | h
    · simp at h
    · exact h
  · cases h2
end Go.Proofs.YtbnelehiieglbaaGreatDoor.Plain

namespace Go.Proofs.YtbnelehiieglbaaGreatDoor
open Go.RowKit

theorem get_mem (s : ByteArray) (i : Nat) (h : i < s.size) : s[i] ∈ L s := List.mem_of_getElem? (L_get s i h)
theorem mem_get {s : ByteArray} {b : UInt8} (h : b ∈ L s) : ∃ i, ∃ h : i < s.size, s[i] = b := by
  obtain ⟨i, hi⟩ := List.mem_iff_getElem?.1 h
  have hlt : i < s.size := by
    rw [List.getElem?_eq_some_iff] at hi
    obtain ⟨h, _⟩ := hi
    rwa [L_length] at h
  rw [L_get s i hlt] at hi
  exact ⟨i, hlt, Option.some.inj hi⟩

theorem name_pos {s : ByteArray} (h : Plain.nameOk (L s) = true) : 0 < s.size := by
  rw [← L_length]
  exact List.length_pos_iff.2 (Plain.name_ne h)

theorem toNat_ne {b : UInt8} {n : Nat} (h : b ≠ UInt8.ofNat n) : b.toNat ≠ n := by
  intro e
  apply h
  rw [← e]
  simp

theorem host_of (s : ByteArray) (hs : s.size ≤ 2147483647) (h : Plain.nameOk (L s) = true) : Host s := by
  have hp := name_pos h
  have hf := Plain.low_facts h
  have hL : ∀ b ∈ L (lowS s), 33 ≤ b ∧ b ≤ 126 ∧ b ≠ 0 ∧ b ≠ 58 ∧ b ≠ 37 ∧ b ≠ 91 ∧ b ≠ 42 ∧ b < 128 := by rw [L_lowS]; exact hf
  have hsz := lowS_size s
  refine ⟨hs, hp, fun b hb => (Plain.name_facts h b hb).2, fun b hb => (hL b hb).2.2.2.1, fun i hi => ?_, ?_, ?_⟩
  · obtain ⟨_, _, _, h58, h37, _⟩ := hL _ (get_mem (lowS s) i hi)
    exact ⟨toNat_ne h58, toNat_ne h37⟩
  · obtain ⟨b, hb, hlet⟩ := Plain.name_letter h
    have hm : Plain.lowB b ∈ L (lowS s) := by rw [L_lowS]; exact List.mem_map.2 ⟨b, hb, rfl⟩
    obtain ⟨i, hi, he⟩ := mem_get hm
    obtain ⟨h1, h2⟩ := Plain.letter_facts b hlet
    refine ⟨i, hi, ?_, ?_⟩
    · rw [he]; exact toNat_ne h2
    · rw [he]
      rw [UInt8.le_iff_toNat_le, UInt8.le_iff_toNat_le] at h1
      have e48 : (48 : UInt8).toNat = 48 := rfl
      have e57 : (57 : UInt8).toNat = 57 := rfl
      omega
  · refine ⟨by omega, ?_⟩
    exact (hL _ (get_mem (lowS s) 0 (by omega))).2.2.2.2.2.1

/-- The host in lower case. -/
def hostStr (s : ByteArray) (hs : s.size ≤ 2147483647) (h : Plain.nameOk (L s) = true) : Str :=
  ⟨lowS s, by rw [lowS_size]; exact name_pos h, by rw [lowS_size]; exact hs, by
    rw [L_lowS]
    intro b hb
    obtain ⟨_, _, h0, _, _, _, _, h128⟩ := Plain.low_facts h b hb
    exact ⟨h0, h128⟩⟩

theorem host_star (s : ByteArray) (h : Plain.nameOk (L s) = true) : (L (lowS s)).head? ≠ some 42 := by
  rw [L_lowS]
  intro e
  have hm : (42 : UInt8) ∈ Plain.low (L s) := List.mem_of_head? e
  exact (Plain.low_facts h 42 hm).2.2.2.2.2.2.1 rfl

theorem host_dom (s : ByteArray) (h : Plain.nameOk (L s) = true) : domOk (lowS s) := by
  unfold domOk
  rw [L_lowS]
  refine ⟨fun b hb => ⟨(Plain.low_facts h b hb).1, (Plain.low_facts h b hb).2.1⟩, fun x hx => ?_⟩
  rw [Plain.labels_low, List.mem_map] at hx
  obtain ⟨y, hy, rfl⟩ := hx
  intro e
  apply Plain.name_labels h y hy
  simpa [Plain.low] using e

/-- Constraints of which the rule speaks are names; they cover the host just where one of them is met. -/
theorem strs_of (host : ByteArray) (hs : host.size ≤ 2147483647) (h : Plain.nameOk (L host) = true) : ∀ (l : List ByteArray), (∀ x ∈ l, x.size ≤ 2147483647) → 2 ∉ asked l host →
    ∃ ls : List Str, l = ls.map (·.1) ∧ (covers ls (hostStr host hs h) = true ↔ 1 ∈ asked l host)
  | [], _, _ => ⟨[], rfl, by simp [covers, asked]⟩
  | c :: l, hsz, h2 => by
    have h2' : Plain.uri (L c) (L host) ≠ 2 ∧ 2 ∉ asked l host := by
      unfold asked at h2 ⊢
      rw [List.map_cons, List.mem_cons] at h2
      exact ⟨fun e => h2 (Or.inl e.symm), fun e => h2 (Or.inr e)⟩
    obtain ⟨ls, hl, hc⟩ := strs_of host hs h l (fun x hx => hsz x (List.mem_cons_of_mem _ hx)) h2'.2
    obtain ⟨hiff, hnz, hne⟩ := Plain.uri_cov h h2'.1
    have hby := Plain.uri_bytes h2'.1
    obtain ⟨x, rfl⟩ : ∃ x : Str, x.1 = c := ⟨⟨c, by rw [← L_length]; exact List.length_pos_iff.2 hne, hsz c List.mem_cons_self, hby⟩, rfl⟩
    refine ⟨x :: ls, by rw [List.map_cons, ← hl], ?_⟩
    have hcov : cov x (hostStr host hs h) = true ↔ Plain.uri (L x.1) (L host) = 1 := by
      rw [hiff]
      unfold cov hostStr
      dsimp only
      rw [L_lowS, ← Plain.cov_iff hnz (Plain.nz_low (Plain.name_nz h)), Plain.key_low]
    unfold covers asked at hc ⊢
    rw [List.any_cons, Bool.or_eq_true, List.map_cons, List.mem_cons, hcov, hc]
    exact or_congr_left eq_comm

theorem rule_answer (p x : List ByteArray) (lp lx : List Str) (s : Str) (host : ByteArray) (hp : p = lp.map (·.1)) (h2p : 2 ∉ asked p host) (h2x : 2 ∉ asked x host)
    (hcp : covers lp s = true ↔ 1 ∈ asked p host) (hcx : covers lx s = true ↔ 1 ∈ asked x host) :
    answeredB (if refuses lp lx s then 1 else 0) (Plain.ruleI (asked p host) (asked x host)) = true := by
  have hlen : (asked p host).length = lp.length := by subst hp; simp [asked]
  have hfp : Plain.foundI (asked p host) = if covers lp s = true then 1 else 0 := by
    unfold Plain.foundI
    rw [if_neg h2p]
    by_cases hc : covers lp s = true
    · rw [if_pos (hcp.1 hc), if_pos hc]
    · rw [if_neg (fun e => hc (hcp.2 e)), if_neg hc]
  have hfx : Plain.foundI (asked x host) = if covers lx s = true then 1 else 0 := by
    unfold Plain.foundI
    rw [if_neg h2x]
    by_cases hc : covers lx s = true
    · rw [if_pos (hcx.1 hc), if_pos hc]
    · rw [if_neg (fun e => hc (hcx.2 e)), if_neg hc]
  unfold Plain.ruleI
  rw [hfp, hfx, hlen]
  unfold refuses answeredB
  cases lp with
  | nil => cases hx : covers lx s <;> simp
  | cons a l =>
    cases hx : covers lx s <;> cases hq : covers (a :: l) s <;> simp
end Go.Proofs.YtbnelehiieglbaaGreatDoor
