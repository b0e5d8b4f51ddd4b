/- The law: what it returns. -/
import Derived.Test.YtbnelehiieglbaaGreatDoorY
namespace Go.Proofs.YtbnelehiieglbaaGreatDoor
open Go.RowKit Go.Proofs.YtbnelehiieglbaaGreatDoorW.PrintWords

/-- True, and memory that was there is as it was. -/
def Holds1 (w w' : World) (e : Ending) : Prop := e = .returned (.bool true) ∧ RowKit.Below w.heap.size w w'

theorem fits_calls (A : Option Addr) (c : Nat) (l : List ByteArray) (w : World) (hC : Kd.C Kd.string w A l.length l) (hc : l.length ≤ c) :
    ∃ r : Bool, (r = true → l.length ≤ 2147483647 ∧ ∀ x ∈ l, x.size ≤ 2147483647) ∧ ∀ w', RowKit.Below w.heap.size w w' → Calls Tryz.prog 4 #[.slice A l.length c] w' fun e w1 => e = .returned (.bool r) ∧ RowKit.Below w'.heap.size w' w1 := by
  obtain ⟨k, r, hk, hr⟩ := zzFits1_tells l
  refine ⟨r, hr, fun w' hb => ?_⟩
  refine (PFnCheckURI.laws_zzFits1.calls k A c l r w' (Kd.C_below hC hb) hc hk).mono ?_
  rintro e w1 ⟨rfl, hd⟩
  exact ⟨rfl, hd.below⟩

def sumF (n : Int) (l : List ByteArray) : Int := l.foldl (fun z x => wrap64 (z + x.size)) n
theorem sumF_take (n : Int) (l : List ByteArray) (k : Nat) (hk : k < l.length) : sumF n (l.take (k + 1)) = wrap64 (sumF n (l.take k) + l[k].size) := by
  unfold sumF
  rw [List.take_succ_eq_append_getElem hk, List.foldl_append]
  rfl

set_option maxHeartbeats 400000 in
theorem sum_calls (A : Option Addr) (c : Nat) (l : List ByteArray) (w : World) (hC : Kd.C Kd.string w A l.length l) (hl : l.length ≤ 2147483647) (hb : ∀ x ∈ l, x.size ≤ 2147483647) :
    Calls Tryz.prog 6 #[.slice A l.length c] w fun e w' => e = .returned (.int .i64 (sumF l.length l)) ∧ w' = w := by
  have HC := Aside0.mk hC
  have HS := Aside0.mk hb
  clear hC hb
  go_enter Tryz.func6, Tryz.ntmps6
  go_wp2
  go_loop [3, 10] (fun v i => ∃ k : Nat, k ≤ l.length ∧ i = .int .i64 k ∧ v = .int .i64 (sumF l.length (l.take k))) (fun _ i => l.length - (intOf i).toNat)
  case atStart => exact ⟨0, Nat.zero_le _, rfl, rfl⟩
  case round =>
    obtain ⟨k, hk, rfl, rfl⟩ := hrel
    by_cases hlt : k < l.length
    · obtain ⟨ad, rfl, hx⟩ := strs_at HC.out k hlt
      have hst := sumF_take l.length l k hlt
      have hsz := HS.out l[k] (List.getElem_mem hlt)
      generalize sumF l.length (l.take k) = z at *
      generalize l[k] = xk at *
      have HST := Aside0.mk hst
      clear hst
      go_wp2
      exact ⟨⟨k + 1, by omega, by go_num, by rw [HST.out]⟩, by simp [intOf]; omega⟩
    · go_wp2
      go_ret
      exact ⟨by rw [List.take_of_length_le (by omega)]; rfl, rfl⟩

theorem three_C (w : World) (a b c : Int) : Kd.C (Kd.int .i64) (w.alloc (.cells #[.int .i64 a, .int .i64 b, .int .i64 c] 3)) (some ⟨w.heap.size, 0, none⟩) 3 [a, b, c] := by
  refine ⟨rfl, by omega, fun _ => ⟨_, rfl, fun j x hx => ?_⟩⟩
  have one : ∀ (z : Int), (w.alloc (.cells #[.int .i64 a, .int .i64 b, .int .i64 c] 3)).cell? ⟨w.heap.size, j, none⟩ = some (.int .i64 z) → ∃ cs : List Value, cs.length = 1 ∧ cs = [.int .i64 z] ∧ ∀ (i : Nat) (u : Value), cs[i]? = some u → (w.alloc (.cells #[.int .i64 a, .int .i64 b, .int .i64 c] 3)).cell? ((⟨w.heap.size, 0, none⟩ : Addr).add (j * 1 + i)) = some u := by
    intro z hz
    refine ⟨_, rfl, rfl, fun i u hu => ?_⟩
    match i, hu with
    | 0, hu =>
      obtain rfl : Value.int .i64 z = u := Option.some.inj hu
      rw [add_plain, Nat.mul_one, Nat.add_zero]
      exact hz
    | i + 1, hu => simp at hu
  match j, hx, one with
  | 0, hx, one => obtain rfl : a = x := Option.some.inj hx; exact one a (by go_cell)
  | 1, hx, one => obtain rfl : b = x := Option.some.inj hx; exact one b (by go_cell)
  | 2, hx, one => obtain rfl : c = x := Option.some.inj hx; exact one c (by go_cell)
  | j + 3, hx, _ => simp at hx

theorem beyond_calls (a b c : Int) (w : World) :
    ∃ r : Bool, Calls Tryz.prog 5 #[.slice (some ⟨w.heap.size, 0, none⟩) 3 3] (w.alloc (.cells #[.int .i64 a, .int .i64 b, .int .i64 c] 3)) fun e w1 => e = .returned (.bool r) ∧ RowKit.Below w.heap.size w w1 := by
  refine ⟨decide (a > 1048576) || decide (b > 1048576) || decide (c > 1048576), (PFnCheckURI.laws_beyond.calls 4 (some ⟨w.heap.size, 0, none⟩) 3 [a, b, c] _ _ (three_C w a b c) (Nat.le_refl _) (beyond_tells a b c)).mono ?_⟩
  rintro e w1 ⟨rfl, hd⟩
  exact ⟨rfl, ((RowKit.Below.refl _ _).alloc (Nat.le_refl _) _).trans (hd.below.mono (by simp))⟩

theorem reads_at {w : World} {base : Nat} {v : Value} {l : List Int} (h : Kd.R (Kd.int .i64) 3 w base (fun _ => True) v l) : ∃ A n c, v = .slice A n c ∧ l.length = n ∧ n ≤ c ∧ Kd.C (Kd.int .i64) w A n l := by
  obtain ⟨A, c, h1, h2, h3⟩ := Kd.R_reads h
  exact ⟨A, _, c, h1, rfl, h2, h3⟩

theorem contains_at (A : Option Addr) (n c0 : Nat) (l : List Int) (x : Int) (w : World) (hn : l.length = n) (hC : Kd.C (Kd.int .i64) w A n l) (hc0 : n ≤ c0) (hl : n ≤ 50) :
    Calls Tryz.prog 11 #[.slice A n c0, .int .i64 x] w fun e w' => e = .returned (.bool (decide (x ∈ l))) ∧ Drawn0 w w' := by
  subst hn
  exact contains_calls A c0 l x w hC hc0 hl

theorem rule_at (A0 : Option Addr) (n0 c0 : Nat) (a : List Int) (A1 : Option Addr) (n1 c1 : Nat) (b : List Int) (w : World) (h0 : a.length = n0) (h1 : b.length = n1) (ha : Kd.C (Kd.int .i64) w A0 n0 a) (hc0 : n0 ≤ c0) (hla : n0 ≤ 50)
    (hb : Kd.C (Kd.int .i64) w A1 n1 b) (hc1 : n1 ≤ c1) (hlb : n1 ≤ 50) :
    Calls Tryz.prog 14 #[.slice A0 n0 c0, .slice A1 n1 c1] w fun e w' => e = .returned (.int .i64 (Plain.ruleI a b)) ∧ Drawn0 w w' := by
  subst h0 h1
  exact rule_calls A0 c0 a A1 c1 b w ha hc0 hla hb hc1 hlb

set_option maxRecDepth 100000 in
set_option maxHeartbeats 1000000 in
theorem law_calls (A1 A2 : Option Addr) (k1 k2 : Nat) (p x : List ByteArray) (host : ByteArray) (w : World) (h1 : Kd.C Kd.string w A1 p.length p) (h2 : Kd.C Kd.string w A2 x.length x) (hk1 : p.length ≤ k1) (hk2 : x.length ≤ k2) :
    Calls Tryz.prog 3 #[.slice A1 p.length k1, .slice A2 x.length k2, .string host] w fun e w' => Holds1 w w' e := by
  obtain ⟨r1, hr1, hf1⟩ := fits_calls A1 k1 p w h1 hk1
  obtain ⟨r2, hr2, hf2⟩ := fits_calls A2 k2 x w h2 hk2
  have HF1 := Aside0.mk hf1
  have HF2 := Aside0.mk hf2
  have HR1 := Aside0.mk hr1
  have HR2 := Aside0.mk hr2
  have H1 := Aside0.mk h1
  have H2 := Aside0.mk h2
  clear hf1 hf2 hr1 hr2 h1 h2
  go_enter Tryz.func3, Tryz.ntmps3
  go_wp2_with fail
  have hbox0 : (w.alloc (Obj.cells #[Value.string host] 9)).cell? ⟨w.heap.size, 0, none⟩ = some (.string host) := by go_cell
  have hb0 : RowKit.Below w.heap.size w (w.alloc (Obj.cells #[Value.string host] 9)) := (RowKit.Below.refl _ _).alloc (Nat.le_refl _) _
  have hlt0 : w.heap.size < (w.alloc (Obj.cells #[Value.string host] 9)).heap.size := by simp
  generalize w.alloc (Obj.cells #[Value.string host] 9) = w0 at *
  refine (HF1.out w0 hb0).mono ?_
  rintro e w1 ⟨rfl, hb1⟩
  have HB1 := Aside0.mk (hb0.trans (hb1.mono hb0.size))
  have HL1 := Aside0.mk (Nat.lt_of_lt_of_le hlt0 hb1.size)
  have hbox1 : w1.cell? ⟨w.heap.size, 0, none⟩ = some (.string host) := cell_kept hb1 hbox0
  clear hb0 hb1 hlt0 hbox0 HF1
  cases r1 with
  | false =>
    go_wp2_with fail
    go_ret
    exact ⟨rfl, HB1.out⟩
  | true =>
    go_wp2_with fail
    refine (HF2.out w1 HB1.out).mono ?_
    rintro e w2 ⟨rfl, hb2⟩
    have HB2 := Aside0.mk (HB1.out.trans (hb2.mono HB1.out.size))
    have HL2 := Aside0.mk (Nat.lt_of_lt_of_le HL1.out hb2.size)
    have hbox2 : w2.cell? ⟨w.heap.size, 0, none⟩ = some (.string host) := cell_kept hb2 hbox1
    clear hb2 hbox1 HF2 HB1 HL1
    cases r2 with
    | false =>
      go_wp2_with fail
      go_ret
      exact ⟨rfl, HB2.out⟩
    | true =>
      obtain ⟨hp1, hp2⟩ := HR1.out (by simp)
      obtain ⟨hx1, hx2⟩ := HR2.out (by simp)
      have HP2 := Aside0.mk hp2
      have HX2 := Aside0.mk hx2
      clear hp2 hx2 HR1 HR2
      by_cases hhs : host.size ≤ 2147483647
      · go_wp2_with fail
        have hs1 := sum_calls A1 k1 p w2.drew (Kd.C_below H1.out HB2.out.drew) hp1 HP2.out
        have hs2 := sum_calls A2 k2 x w2.drew (Kd.C_below H2.out HB2.out.drew) hx1 HX2.out
        generalize sumF p.length p = z1 at *
        generalize sumF x.length x = z2 at *
        have HS1 := Aside0.mk hs1
        have HS2 := Aside0.mk hs2
        clear hs1 hs2
        refine wp_region_still_tail 6 (by kernel_rfl) (by kernel_rfl) ?_
        simp only [List.take_succ_cons, List.take_zero, List.drop_succ_cons, List.drop_zero]
        still_step
        still_call HS1.out
        still_step
        still_call HS2.out
        still_step
        still_step
        refine wpStill_nil ?_
        change wpList _ _ _ _ _ w2.drew
        have hbox3 : w2.drew.cell? ⟨w.heap.size, 0, none⟩ = some (.string host) := hbox2
        have HB3 : Aside0 (RowKit.Below w.heap.size w w2.drew) := ⟨HB2.out.drew⟩
        have HL3 : Aside0 (w.heap.size < w2.drew.heap.size) := ⟨HL2.out⟩
        clear hbox2 HB2 HL2 HS1 HS2
        generalize w2.drew = w3 at *
        obtain ⟨r3, hby⟩ := beyond_calls z1 z2 host.size w3
        have HBY := Aside0.mk hby
        clear hby
        go_wp2_with fail
        refine HBY.out.mono ?_
        rintro e w4 ⟨rfl, hb4⟩
        have HB4 := Aside0.mk (HB3.out.trans (hb4.mono HB3.out.size))
        have HL4 := Aside0.mk (Nat.lt_of_lt_of_le HL3.out hb4.size)
        have hbox4 : w4.cell? ⟨w.heap.size, 0, none⟩ = some (.string host) := cell_kept hb4 hbox3
        clear hb4 hbox3 HB3 HL3 HBY
        cases r3 with
        | true =>
          go_wp2_with fail
          go_ret
          exact ⟨rfl, HB4.out⟩
        | false =>
          by_cases hp50 : p.length ≤ 50
          · by_cases hx50 : x.length ≤ 50
            · go_wp2_with fail
              refine (name_calls host w4 hhs).mono ?_
              rintro e w5 ⟨rfl, hb5⟩
              have HB5 := Aside0.mk (HB4.out.trans (hb5.mono HB4.out.size))
              have HL5 := Aside0.mk (Nat.lt_of_lt_of_le HL4.out hb5.size)
              have hbox5 : w5.cell? ⟨w.heap.size, 0, none⟩ = some (.string host) := cell_kept hb5 hbox4
              clear hb5 hbox4 HB4 HL4
              generalize hno : Plain.nameOk (L host) = no at *
              cases no with
              | false =>
                go_wp2_with fail
                go_ret
                exact ⟨rfl, HB5.out⟩
              | true =>
                go_wp2_with fail
                refine (of_calls A1 k1 p host w.heap.size w5 (Kd.C_below H1.out HB5.out) hp50 HP2.out hhs hbox5 HL5.out).mono ?_
                rintro e w6 ⟨v1, rfl, ho1, hb6⟩
                obtain ⟨B1, n1, j1, rfl, hn1, hj1, hc1⟩ := reads_at ho1
                have HB6 := Aside0.mk (HB5.out.trans (hb6.mono HB5.out.size))
                have HL6 := Aside0.mk (Nat.lt_of_lt_of_le HL5.out hb6.size)
                have HC1 := Aside0.mk hc1
                have hbox6 : w6.cell? ⟨w.heap.size, 0, none⟩ = some (.string host) := cell_kept hb6 hbox5
                clear ho1 hb6 hc1 hbox5 HB5 HL5
                go_wp2_with fail
                refine (of_calls A2 k2 x host w.heap.size w6 (Kd.C_below H2.out HB6.out) hx50 HX2.out hhs hbox6 HL6.out).mono ?_
                rintro e w7 ⟨v2, rfl, ho2, hb7⟩
                obtain ⟨B2, n2, j2, rfl, hn2, hj2, hc2⟩ := reads_at ho2
                have HB7 := Aside0.mk (HB6.out.trans (hb7.mono HB6.out.size))
                have HC1' := Aside0.mk (Kd.C_below HC1.out hb7)
                have HC2 := Aside0.mk hc2
                have hbox7 : w7.cell? ⟨w.heap.size, 0, none⟩ = some (.string host) := cell_kept hb7 hbox6
                clear ho2 hb7 hc2 hbox6 HB6 HL6 HC1
                have hla : n1 ≤ 50 := by rw [← hn1]; simpa [asked] using hp50
                have hlx : n2 ≤ 50 := by rw [← hn2]; simpa [asked] using hx50
                have HN1 := Aside0.mk hn1
                have HN2 := Aside0.mk hn2
                clear hn1 hn2
                go_wp2_with fail
                refine (contains_at B1 n1 j1 (asked p host) 2 w7 HN1.out HC1'.out hj1 hla).mono ?_
                rintro e w8 ⟨rfl, hd8⟩
                have HB8 := Aside0.mk (HB7.out.trans (hd8.below.mono HB7.out.size))
                have HC1 := Aside0.mk (Kd.C_below HC1'.out hd8.below)
                have HC2' := Aside0.mk (Kd.C_below HC2.out hd8.below)
                have hbox8 : w8.cell? ⟨w.heap.size, 0, none⟩ = some (.string host) := cell_kept hd8.below hbox7
                clear hd8 hbox7 HB7 HC1' HC2
                by_cases h2p : 2 ∈ asked p host
                · have hdp : decide (2 ∈ asked p host) = true := decide_eq_true h2p
                  generalize decide (2 ∈ asked p host) = dp at *
                  subst hdp
                  clear h2p
                  go_wp2_with fail
                  go_ret
                  exact ⟨rfl, HB8.out⟩
                · have hdp : decide (2 ∈ asked p host) = false := decide_eq_false h2p
                  have H2P := Aside0.mk h2p
                  generalize decide (2 ∈ asked p host) = dp at *
                  subst hdp
                  clear h2p
                  go_wp2_with fail
                  refine (contains_at B2 n2 j2 (asked x host) 2 w8 HN2.out HC2'.out hj2 hlx).mono ?_
                  rintro e w9 ⟨rfl, hd9⟩
                  have HB9 := Aside0.mk (HB8.out.trans (hd9.below.mono HB8.out.size))
                  have HC1' := Aside0.mk (Kd.C_below HC1.out hd9.below)
                  have HC2 := Aside0.mk (Kd.C_below HC2'.out hd9.below)
                  have hbox9 : w9.cell? ⟨w.heap.size, 0, none⟩ = some (.string host) := cell_kept hd9.below hbox8
                  clear hd9 hbox8 HB8 HC1 HC2'
                  by_cases h2x : 2 ∈ asked x host
                  · have hdx : decide (2 ∈ asked x host) = true := decide_eq_true h2x
                    generalize decide (2 ∈ asked x host) = dx at *
                    subst hdx
                    clear h2x
                    go_wp2_with fail
                    go_ret
                    exact ⟨rfl, HB9.out⟩
                  · have hdx : decide (2 ∈ asked x host) = false := decide_eq_false h2x
                    have H2X := Aside0.mk h2x
                    generalize decide (2 ∈ asked x host) = dx at *
                    subst hdx
                    clear h2x
                    obtain ⟨lp, hlp, hcp⟩ := strs_of host hhs hno p HP2.out H2P.out
                    obtain ⟨lx, hlx2, hcx⟩ := strs_of host hhs hno x HX2.out H2X.out
                    have hans := rule_answer p x lp lx _ host hlp H2P.out H2X.out hcp hcx
                    have hcode := fun w h1 h2 => uri_code_calls A1 A2 k1 k2 lp lx host (hostStr host hhs hno) w rfl (host_of host hhs hno) h1 h2 (by rw [← List.length_map (f := (·.1)), ← hlp]; exact hp50) (by rw [← List.length_map (f := (·.1)), ← hlx2]; exact hx50) (host_star host hno) (host_dom host hno)
                    have HANS := Aside0.mk hans
                    have HCODE := Aside0.mk hcode
                    clear hans hcode hcp hcx
                    go_wp2_with fail
                    have hk1' : Kd.C Kd.string w9 A1 lp.length (lp.map (·.1)) := by have := Kd.C_below H1.out HB9.out; rw [hlp, List.length_map] at this; exact this
                    have hk2' : Kd.C Kd.string w9 A2 lx.length (lx.map (·.1)) := by have := Kd.C_below H2.out HB9.out; rw [hlx2, List.length_map] at this; exact this
                    refine (HCODE.out w9 hk1' hk2').mono ?_
                    rintro e w10 ⟨rfl, hb10⟩
                    have HB10 := Aside0.mk (HB9.out.trans (hb10.mono HB9.out.size))
                    have HC1 := Aside0.mk (Kd.C_below HC1'.out hb10)
                    have HC2' := Aside0.mk (Kd.C_below HC2.out hb10)
                    clear hb10 hbox9 HB9 HC1' HC2 hk1' hk2' HCODE hlp hlx2
                    generalize (if refuses lp lx (hostStr host hhs hno) = true then (1 : Int) else 0) = code at *
                    go_wp2_with fail
                    refine (rule_at B1 n1 j1 (asked p host) B2 n2 j2 (asked x host) w10 HN1.out HN2.out HC1.out hj1 hla HC2'.out hj2 hlx).mono ?_
                    rintro e w11 ⟨rfl, hd11⟩
                    have HB11 := Aside0.mk (HB10.out.trans (hd11.below.mono HB10.out.size))
                    clear hd11 HB10 HC1 HC2'
                    generalize Plain.ruleI (asked p host) (asked x host) = rule at *
                    go_wp2_with fail
                    refine (answered_calls code rule w11).mono ?_
                    rintro e w12 ⟨rfl, hd12⟩
                    have HB12 := Aside0.mk (HB11.out.trans (hd12.below.mono HB11.out.size))
                    clear hd12 HB11
                    have hany := HANS.out
                    generalize answeredB code rule = an at *
                    subst hany
                    go_wp2_with fail
                    go_ret
                    exact ⟨rfl, HB12.out⟩
            · go_wp2_with fail
              go_ret
              exact ⟨rfl, HB4.out⟩
          · go_wp2_with fail
            go_ret
            exact ⟨rfl, HB4.out⟩
      · go_wp2_with fail
        go_ret
        exact ⟨rfl, HB2.out⟩
end Go.Proofs.YtbnelehiieglbaaGreatDoor
