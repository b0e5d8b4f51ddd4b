/- What constraints say of a host, one after the other; what lists of such answers come to: what the reference's calls return. -/
import Derived.Test.YtbnelehiieglbaaGreatDoorF
namespace Go.Proofs.YtbnelehiieglbaaGreatDoor
open Go.RowKit Go.Proofs.YtbnelehiieglbaaGreatDoorW.PrintWords

theorem strs_at {w : World} {A : Option Addr} {l : List ByteArray} (h : Kd.C Kd.string w A l.length l) (k : Nat) (hk : k < l.length) : ∃ ad, A = some ad ∧ w.cell? (ad.add k) = some (.string l[k]) := by
  obtain ⟨ad, rfl, hc⟩ := h.2.2 (by omega)
  obtain ⟨c, hlen, hr, hcell⟩ := hc k l[k] (List.getElem?_eq_getElem hk)
  refine ⟨ad, rfl, ?_⟩
  have hc1 : c = [.string l[k]] := hr
  subst hc1
  have := hcell 0 (.string l[k]) rfl
  simpa [Kd.string, Kd.scalar] using this

theorem closure_calls (c host : ByteArray) (B : Nat) (w : World) (hc : c.size ≤ 2147483647) (hh : host.size ≤ 2147483647) (hcell : w.cell? ⟨B, 0, none⟩ = some (.string host)) :
    Calls Tryz.prog 8 #[.string c, .pointer (some ⟨B, 0, none⟩)] w fun e w' => e = .returned (.int .i64 (Plain.uri (L c) (L host))) ∧ Below w.heap.size w w' := by
  have h9 := uri_calls c host w hc hh
  generalize Plain.uri (L c) (L host) = r at h9 ⊢
  have H9 := Lib.hid h9
  clear h9
  go_enter Tryz.func8, Tryz.ntmps8
  go_wp2_with (go_at_call 9; refine H9.out.mono ?_; rintro e w' ⟨rfl, hb⟩)
  go_ret
  exact ⟨rfl, by assumption⟩

/-- What constraints say of a host. -/
def asked (l : List ByteArray) (host : ByteArray) : List Int := l.map fun c => Plain.uri (L c) (L host)

theorem asked_take (l : List ByteArray) (host : ByteArray) (k : Nat) (hk : k < l.length) : asked (l.take (k + 1)) host = asked (l.take k) host ++ [Plain.uri (L l[k]) (L host)] := by
  unfold asked
  rw [List.take_succ_eq_append_getElem hk, List.map_append]
  rfl

theorem info3 : (Tryz.prog.info? 3).map (fun i => (i.zero, i.size, i.bytes)) = some (some (.int .i64 0), 1, 8) := by kernel_rfl

set_option maxHeartbeats 800000 in
set_option maxRecDepth 100000 in
theorem of_calls (A : Option Addr) (c0 : Nat) (l : List ByteArray) (host : ByteArray) (B : Nat) (w : World) (hC : Kd.C Kd.string w A l.length l) (hlen : l.length ≤ 50)
    (hsz : ∀ x ∈ l, x.size ≤ 2147483647) (hh : host.size ≤ 2147483647) (hcell : w.cell? ⟨B, 0, none⟩ = some (.string host)) (hB : B < w.heap.size) :
    Calls Tryz.prog 10 #[.slice A l.length c0, .func (.func 8) #[] #[.pointer (some ⟨B, 0, none⟩)]] w fun e w' =>
      ∃ v, e = .returned v ∧ Kd.R (Kd.int .i64) 3 w' w.heap.size (fun _ => True) v (asked l host) ∧ Below w.heap.size w w' := by
  have HC := Aside0.mk hC
  have HS := Aside0.mk hsz
  have HCELL := Aside0.mk hcell
  clear hC hsz hcell
  have HB := Aside0.mk (Below.refl w.heap.size w)
  go_enter Tryz.func10, Tryz.ntmps10
  go_wp2_with (first | ((with_reducible refine gate_dst (N := 8) rfl ?_); refine Kd.R_lit (Kd.int .i64) _ 3 ?hg (N := 8) ?hd (xs := ([] : List Int)) (inner := []) (ok := fun _ => True) (okp := fun _ => True) ?hr ?hp (fun _ hk => hk) trivial (Below.refl _ _) (Nat.le_refl _) (by simp) ?_; (case hd => rfl); (case hg => rfl); (case hr => first | (go_simp; done) | (go_simp; rfl)); (case hp => exact (Reps.none _ _)); intro v1 w1 ho hb hg_ hnew_; clear hg_ hnew_; have HO := Aside0.mk ho; have HB1 := Aside0.mk hb; clear ho hb))
  go_loopw [5, 11] (fun v i wr => ∃ k : Nat, k ≤ l.length ∧ i = .int .i64 k ∧ Aside0 (Kd.R (Kd.int .i64) 3 wr w.heap.size (fun _ => True) v (asked (l.take k) host)) ∧ Aside0 (Below w.heap.size w wr)) (fun _ i _ => l.length - (intOf i).toNat)
  case atStart => exact ⟨0, Nat.zero_le _, rfl, ⟨HO.out⟩, ⟨HB1.out⟩⟩
  case round =>
    clear HB
    obtain ⟨k, hk, rfl, HO, HB⟩ := hrel
    by_cases hlt : k < l.length
    · obtain ⟨ad, rfl, hc⟩ := strs_at (Kd.C_below HC.out HB.out) k hlt
      have hbox : wr.cell? ⟨B, 0, none⟩ = some (.string host) := by
        rw [HB.out.cell (p := ⟨B, 0, none⟩) hB]; exact HCELL.out
      have hcl := closure_calls l[k] host B wr (HS.out _ (List.getElem_mem _)) hh hbox
      obtain ⟨r, hr⟩ : ∃ r, r = Plain.uri (L l[k]) (L host) := ⟨_, rfl⟩
      rw [← hr] at hcl
      have HR := Aside0.mk hr
      have HCL := Aside0.mk hcl
      clear hr hcl hbox
      go_wp2_with fail
      refine HCL.out.mono ?_
      rintro e w2 ⟨rfl, hb2⟩
      have HB2 := Aside0.mk (below_step HB.out hb2)
      have HO2 := Aside0.mk (Kd.R_below HO.out hb2)
      clear hb2 HCL HC HCELL HO HB hc
      go_wp2_with (first | ((with_reducible refine gate_builtin (b := .append) (xs := #[.tmp 15, .tmp 19]) rfl ?_); at_builtin; refine Kd.R_append (Kd.int .i64) (w0 := w) w.heap.size rfl (.tmp 15) (.tmp 19) 29 3 (.int .i64 0) 8 rfl Tryz.underlying29 info3 rfl (by decide) (by omega) _ (asked (l.take k) host) r [.int .i64 r] (fun _ => True) (fun _ => False) rfl rfl ?aP (fun _ hk => hk.elim) ?aF ?aO ?aB ?aS ?aL ?_; (case aP => exact rfl); (case aB => exact HB2.out); (case aF => exact (fun _ _ => trivial)); (case aO => exact HO2.out); (case aS => exact (below_size HB2.out)); (case aL => (simp [asked]; omega)); intro v1 w3 ho3 hb3 hg3 hat3; have HO3 := Aside0.mk ho3; have HB3 := Aside0.mk hb3; clear ho3 hb3 hg3 hat3))
      go_roundw
      case rel => exact ⟨k + 1, by omega, by go_num, ⟨by rw [asked_take l host k hlt, ← HR.out]; exact HO3.out⟩, ⟨HB3.out⟩⟩
      case measure => simp [intOf]; omega
    · have HO2 := HO.out
      rw [List.take_of_length_le (by omega)] at HO2
      have HO3 := Aside0.mk HO2
      clear HO2 HO
      go_wp2
      go_ret
      exact ⟨_, rfl, HO3.out, HB.out⟩

theorem contains_calls (A : Option Addr) (c0 : Nat) (l : List Int) (x : Int) (w : World) (hC : Kd.C (Kd.int .i64) w A l.length l) (hc0 : l.length ≤ c0) (hl : l.length ≤ 50) :
    Calls Tryz.prog 11 #[.slice A l.length c0, .int .i64 x] w fun e w' => e = .returned (.bool (decide (x ∈ l))) ∧ Drawn0 w w' := by
  obtain ⟨k, hk⟩ := Contains_tells l x (by omega)
  exact PFnCheckURI.slices_Contains_int_int.calls k A c0 l x _ w hC hc0 hk

theorem found_calls (A : Option Addr) (c0 : Nat) (l : List Int) (w : World) (hC : Kd.C (Kd.int .i64) w A l.length l) (hc0 : l.length ≤ c0) (hl : l.length ≤ 50) :
    Calls Tryz.prog 24 #[.slice A l.length c0] w fun e w' => e = .returned (.int .i64 (Plain.foundI l)) ∧ Drawn0 w w' := by
  obtain ⟨k, hk⟩ := found_tells l (by omega)
  exact Pfound.spec_found.calls k A c0 l _ w hC hc0 hk

/-- The rule, over what the two lists came to. -/
def ruleJ (bad good : Int) : Int := if bad = 1 ∨ good = 0 then 1 else if bad = 2 ∨ good = 2 then 2 else 0
theorem rule_is (a b : List Int) : Plain.ruleI a b = ruleJ (Plain.foundI b) (if 0 < a.length then Plain.foundI a else 1) := rfl
theorem foundI_is (l : List Int) : Plain.foundI l = 0 ∨ Plain.foundI l = 1 ∨ Plain.foundI l = 2 := by
  unfold Plain.foundI
  split
  · exact Or.inr (Or.inl rfl)
  · split
    · exact Or.inr (Or.inr rfl)
    · exact Or.inl rfl

theorem drawn_trans {w w1 w2 : World} (h1 : Drawn0 w w1) (h2 : Drawn0 w1 w2) : Drawn0 w w2 := by
  obtain ⟨n, rfl⟩ := h1.out
  obtain ⟨m, rfl⟩ := h2.out
  exact h1.step m

set_option maxHeartbeats 800000 in
theorem rule_calls (A0 : Option Addr) (c0 : Nat) (a : List Int) (A1 : Option Addr) (c1 : Nat) (b : List Int) (w : World) (ha : Kd.C (Kd.int .i64) w A0 a.length a) (hc0 : a.length ≤ c0) (hla : a.length ≤ 50)
    (hb : Kd.C (Kd.int .i64) w A1 b.length b) (hc1 : b.length ≤ c1) (hlb : b.length ≤ 50) :
    Calls Tryz.prog 14 #[.slice A0 a.length c0, .slice A1 b.length c1] w fun e w' => e = .returned (.int .i64 (Plain.ruleI a b)) ∧ Drawn0 w w' := by
  rw [rule_is]
  have hfb := foundI_is b
  have hfa := foundI_is a
  have h1 := found_calls A1 c1 b w hb hc1 hlb
  have h0 : ∀ n, Calls Tryz.prog 24 #[.slice A0 a.length c0] (w.drewN n) fun e w' => e = .returned (.int .i64 (Plain.foundI a)) ∧ Drawn0 (w.drewN n) w' :=
    fun n => found_calls A0 c0 a _ (by exact ha) hc0 hla
  generalize Plain.foundI b = fb at *
  generalize Plain.foundI a = fa at *
  have H1 := Aside0.mk h1
  have H0 := Aside0.mk h0
  clear h1 h0 ha hb
  by_cases hn : 0 < a.length
  · rw [if_pos hn]
    rcases hfb with rfl | rfl | rfl <;> rcases hfa with rfl | rfl | rfl <;>
      (go_enter Tryz.func14, Tryz.ntmps14
       go_wp2_with fail
       refine H1.out.mono ?_
       rintro e w1 ⟨rfl, ⟨n, rfl⟩⟩
       go_wp2_with fail
       refine (H0.out n).mono ?_
       rintro e w2 ⟨rfl, ⟨m, rfl⟩⟩
       go_wp2_with fail
       go_ret
       exact ⟨ret_int (by decide), (Drawn0.refl w).step _⟩)
  · rw [if_neg hn]
    clear H0
    rcases hfb with rfl | rfl | rfl <;>
      (go_enter Tryz.func14, Tryz.ntmps14
       go_wp2_with fail
       refine H1.out.mono ?_
       rintro e w1 ⟨rfl, ⟨n, rfl⟩⟩
       go_wp2_with fail
       go_ret
       exact ⟨ret_int (by decide), (Drawn0.refl w).step _⟩)

/-- Whether a check answers as the rule says. -/
def answeredB (code rule : Int) : Bool := if rule = 1 then code == 1 else if rule = 0 then code == 0 else true
theorem answered_calls (code rule : Int) (w : World) :
    Calls Tryz.prog 12 #[.int .i64 code, .int .i64 rule] w fun e w' => e = .returned (.bool (answeredB code rule)) ∧ Drawn0 w w' := by
  refine PFnCheckURI.laws_answered.calls code rule (answeredB code rule) w ?_
  unfold PFnCheckURI.laws_answered.f answeredB
  split
  · rfl
  · split <;> rfl
end Go.Proofs.YtbnelehiieglbaaGreatDoor
