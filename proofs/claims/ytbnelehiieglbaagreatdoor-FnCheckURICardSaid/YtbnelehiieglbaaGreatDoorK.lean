/- Searching a sorted row of constraints for one that covers a name, and the query above it: what the calls return; memory that was there is as it was. What is left of constraints, and that it is met by just the names that met one of all; the first label cut off: for names that may be constraints. -/
import Derived.Test.YtbnelehiieglbaaGreatDoorI
import Derived.Test.YtbnelehiieglbaaGreatDoorF
namespace Go.Proofs.YtbnelehiieglbaaGreatDoor
open Go.RowKit Go.Proofs.YtbnelehiieglbaaGreatDoorW.PrintWords
open Go.Lib Go.Sort

theorem sw_below {w W : World} {G : Nat} {d : Array Str} (h : SW enc w G 0 d W) (hH : Holds enc w G 0 d) : RowKit.Below w.heap.size w W := by
  obtain ⟨n, os, rfl⟩ := h
  unfold sortWorld
  rw [putRow_self enc _ G 0 d (holds_ahead enc w n G 0 d hH)]
  exact ⟨rfl, rfl, rfl, by rw [size_grow]; show w.heap.size ≤ w.heap.size + _; omega, fun b hb => heap_grow_old _ _ hb⟩

theorem cmpLaysT (s : Str) (blk off size : Nat) (w : World) : CmpLaysT Tryz.prog 39 #[] enc (enc s) (fun x => cf x s) blk off size w := by
  intro m os dk h x
  exact cmpLays blk off size w m os dk h x s

/-- How many stand ahead of s. -/
def ahead_ (T : Array Str) (s : Str) : Nat := T.toList.countP fun x => decide (cf x s < 0)
/-- Whether one of a row covers s. -/
def foundA (T : Array Str) (s : Str) : Bool :=
  if (decide (ahead_ T s < T.size) && decide (cf T[ahead_ T s]! s = 0)) = true then true else cov (if ahead_ T s = 0 then T[0]! else T[ahead_ T s - 1]!) s

def SortedK (T : Array Str) : Prop := ∀ a b, a ≤ b → b < T.size → Plain.leK (keyS T[a]!) (keyS T[b]!)

theorem sorted_mono {T : Array Str} (h : SortedK T) (s : Str) : ∀ a b, a ≤ b → b < T.size → cf T[b]! s < 0 → cf T[a]! s < 0 := by
  intro a b hab hb hlt
  rw [cf_is, Plain.cmpK_neg] at *
  exact fun hle => hlt (Plain.leK_trans _ _ _ hle (h a b hab hb))

def SomeStr (b : Bool) (w w' : World) (e : Ending) : Prop := ∃ r : ByteArray, e = .returned (.tuple #[.string r, .bool b]) ∧ RowKit.Below w.heap.size w w'

set_option maxHeartbeats 1600000 in
set_option maxRecDepth 100000 in
theorem search_calls (P G cap : Nat) (T : Array Str) (s : Str) (w : World) (h1 : 1 ≤ T.size) (hn : T.size ≤ 1048576) (hP : w.cell? ⟨P, 0, none⟩ = some (.slice (some ⟨G, 0, none⟩) T.size cap))
    (hH : Holds enc w G 0 T) (hS : SortedK T) (hc1 : T.size ≤ cap) (hc2 : cap ≤ 9223372036854775807) :
    Calls Tryz.prog 128 #[.pointer (some ⟨P, 0, none⟩), .string s.1, .func (.func 39) #[] #[], .func (.func 40) #[] #[]] w fun e w' => SomeStr (foundA T s) w w' e := by
  have hGlt : G < w.heap.size := World.block_lt_of_cell? w _ (hH 0 (by omega)).1
  have hPlt : P < w.heap.size := World.block_lt_of_cell? w _ hP
  have hbs : Calls Tryz.prog 129 #[.slice (some ⟨G, 0, none⟩) T.size cap, .string s.1, .func (.func 39) #[] #[]] w fun e w' =>
      e = .returned (.tuple #[.int .i64 (ahead_ T s : Nat), .bool (decide (ahead_ T s < T.size) && decide (cf T[ahead_ T s]! s = 0))]) ∧ SW enc w G 0 T w' :=
    Any.slices_BinarySearchFunc Tryz.laysSlsg14 enc enc_one (enc s) (fun x => cf x s) 39 #[] G 0 cap T w enters39 (cmpLaysT s G 0 T.size w) hH hGlt (by omega) (sorted_mono hS s)
  have hle : ahead_ T s ≤ T.size := by
    unfold ahead_
    have := List.countP_le_length (p := fun x => decide (cf x s < 0)) (l := T.toList)
    simpa using this
  have hfd : foundA T s = if (decide (ahead_ T s < T.size) && decide (cf T[ahead_ T s]! s = 0)) = true then true else cov (if ahead_ T s = 0 then T[0]! else T[ahead_ T s - 1]!) s := rfl
  have hlt : (decide (ahead_ T s < T.size) && decide (cf T[ahead_ T s]! s = 0)) = true → ahead_ T s < T.size := fun h => by
    simp only [Bool.and_eq_true, decide_eq_true_eq] at h
    exact h.1
  generalize foundA T s = fd at *
  generalize ahead_ T s = n at *
  generalize hbb : (decide (n < T.size) && decide (cf T[n]! s = 0)) = bb at *
  clear hbb
  have HBS := Aside0.mk hbs
  have HH := Aside0.mk hH
  clear hbs hH
  cases bb with
  | true =>
    have hlt1 := hlt rfl
    have hfd1 : fd = true := by rw [hfd]; rfl
    clear hfd hlt hS
    subst hfd1
    go_enter Tryz.func128, Tryz.ntmps128
    go_wp2_with fail
    refine HBS.out.mono ?_
    rintro e w1 ⟨rfl, hsw⟩
    have hb1 := sw_below hsw HH.out
    have hP1 : w1.cell? ⟨P, 0, none⟩ = some (.slice (some ⟨G, 0, none⟩) T.size cap) := by rw [hb1.cell (p := ⟨P, 0, none⟩) hPlt]; exact hP
    have hx : w1.cell? ⟨G, n, none⟩ = some (.string T[n]!.1) := by
      rw [hb1.cell (p := ⟨G, n, none⟩) hGlt]
      have := (HH.out n hlt1).1
      rwa [Nat.zero_add] at this
    have HB1 := Aside0.mk hb1
    generalize T[n]!.1 = res at *
    clear hsw hb1 HBS HH
    go_wp2
    go_ret2
    exact ⟨_, rfl, HB1.out⟩
  | false =>
    have hfd1 : fd = cov (if n = 0 then T[0]! else T[n - 1]!) s := by rw [hfd]; rfl
    clear hfd hlt hS
    by_cases hn0 : n = 0
    · rw [if_pos hn0] at hfd1
      subst hn0
      have hq : ∀ W, Calls Tryz.prog 40 #[.string T[0]!.1, .string s.1] W fun e w' => e = .returned (.bool (cov T[0]! s)) ∧ Drawn0 W w' := fun W => suffix_calls T[0]! s W
      rw [← hfd1] at hq
      clear hfd1
      have HQ := Aside0.mk hq
      clear hq
      go_enter Tryz.func128, Tryz.ntmps128
      go_wp2_with fail
      refine HBS.out.mono ?_
      rintro e w1 ⟨rfl, hsw⟩
      have hb1 := sw_below hsw HH.out
      have hP1 : w1.cell? ⟨P, 0, none⟩ = some (.slice (some ⟨G, 0, none⟩) T.size cap) := by rw [hb1.cell (p := ⟨P, 0, none⟩) hPlt]; exact hP
      have hx : w1.cell? ⟨G, 0, none⟩ = some (.string T[0]!.1) := by
        rw [hb1.cell (p := ⟨G, 0, none⟩) hGlt]
        have := (HH.out 0 (by omega)).1
        rwa [Nat.zero_add] at this
      have HB1 := Aside0.mk hb1
      generalize T[0]!.1 = res at *
      clear hsw hb1 HBS HH
      cases fd <;>
        (go_wp2_with fail
         refine (HQ.out _).mono ?_
         rintro e w2 ⟨rfl, ⟨nd, rfl⟩⟩
         go_wp2_with fail
         go_ret2
         exact ⟨_, rfl, pw_below_drewN HB1.out _⟩)
    · rw [if_neg hn0] at hfd1
      obtain ⟨m, rfl⟩ : ∃ m, n = m + 1 := ⟨n - 1, by omega⟩
      rw [Nat.add_sub_cancel] at hfd1
      have hq : ∀ W, Calls Tryz.prog 40 #[.string T[m]!.1, .string s.1] W fun e w' => e = .returned (.bool (cov T[m]! s)) ∧ Drawn0 W w' := fun W => suffix_calls T[m]! s W
      rw [← hfd1] at hq
      clear hfd1 hn0
      have HQ := Aside0.mk hq
      clear hq
      go_enter Tryz.func128, Tryz.ntmps128
      go_wp2_with fail
      refine HBS.out.mono ?_
      rintro e w1 ⟨rfl, hsw⟩
      have hb1 := sw_below hsw HH.out
      have hP1 : w1.cell? ⟨P, 0, none⟩ = some (.slice (some ⟨G, 0, none⟩) T.size cap) := by rw [hb1.cell (p := ⟨P, 0, none⟩) hPlt]; exact hP
      have hx : w1.cell? ⟨G, m, none⟩ = some (.string T[m]!.1) := by
        rw [hb1.cell (p := ⟨G, m, none⟩) hGlt]
        have := (HH.out m (by omega)).1
        rwa [Nat.zero_add] at this
      have HB1 := Aside0.mk hb1
      generalize T[m]!.1 = res at *
      clear hsw hb1 HBS HH
      have t1 : (((m : Int) + 1) == 0) = false := by rw [beq_eq_false_iff_ne]; omega
      cases fd <;>
        (go_wp2_with fail
         refine (HQ.out _).mono ?_
         rintro e w2 ⟨rfl, ⟨nd, rfl⟩⟩
         go_wp2_with fail
         go_ret2
         exact ⟨_, rfl, pw_below_drewN HB1.out _⟩)

set_option maxHeartbeats 1600000 in
set_option maxRecDepth 100000 in
theorem query_calls (Q P G cap : Nat) (perm : Bool) (T : Array Str) (s : Str) (w : World) (h1 : 1 ≤ T.size) (hn : T.size ≤ 1048576)
    (hQ0 : w.cell? ⟨Q, 0, none⟩ = some (.bool false)) (hQ1 : w.cell? ⟨Q, 1, none⟩ = some (.bool perm)) (hQ2 : w.cell? ⟨Q, 2, none⟩ = some (.pointer (some ⟨P, 0, none⟩)))
    (hP : w.cell? ⟨P, 0, none⟩ = some (.slice (some ⟨G, 0, none⟩) T.size cap))
    (hH : Holds enc w G 0 T) (hS : SortedK T) (hc1 : T.size ≤ cap) (hc2 : cap ≤ 9223372036854775807) (hstar : (L s.1).head? ≠ some 42) :
    Calls Tryz.prog 127 #[.pointer (some ⟨Q, 0, none⟩), .string s.1] w fun e w' => SomeStr (foundA T s) w w' e := by
  have hsr := search_calls P G cap T s w h1 hn hP hH hS hc1 hc2
  have hs0 : 0 < s.1.size := s.2.1
  have hQlt : Q < w.heap.size := World.block_lt_of_cell? w _ hQ0
  have h42 : ((s.1[0].toNat : Int) == 42) = false := by
    rw [beq_eq_false_iff_ne]
    intro h
    apply hstar
    rw [head_is s.1 hs0]
    congr 1
    have e42 : (42 : UInt8).toNat = 42 := rfl
    exact UInt8.toNat_inj.1 (by omega)
  generalize foundA T s = fd at *
  generalize s.1 = sb at *
  have HS := Aside0.mk hsr
  clear hsr hH hS hstar hP h1 hn hc1 hc2
  cases fd with
  | true =>
    go_enter Tryz.func127, Tryz.ntmps127
    go_wp2_with fail
    refine HS.out.mono ?_
    rintro e w1 ⟨r, rfl, hb⟩
    have HB := Aside0.mk hb
    clear hb HS
    go_wp2_with fail
    go_ret2
    exact ⟨_, rfl, HB.out⟩
  | false =>
    go_enter Tryz.func127, Tryz.ntmps127
    go_wp2_with fail
    refine HS.out.mono ?_
    rintro e w1 ⟨r, rfl, hb⟩
    have q1 : w1.cell? ⟨Q, 1, none⟩ = some (.bool perm) := by rw [hb.cell (p := ⟨Q, 1, none⟩) hQlt]; exact hQ1
    have HB := Aside0.mk hb
    clear hb HS hQ0 hQ1 hQ2
    cases perm <;>
      (go_wp2_with fail
       go_ret2
       exact ⟨_, rfl, HB.out⟩)
end Go.Proofs.YtbnelehiieglbaaGreatDoor
namespace Go.Proofs.YtbnelehiieglbaaGreatDoor
open Go.RowKit Go.Proofs.YtbnelehiieglbaaGreatDoorW.PrintWords
open Go.Lib Go.Sort

theorem list_get! (T : Array Str) (i : Nat) : T.toList[i]! = T[i]! := by
  simp [getElem!_def]

theorem found_is (T : Array Str) (s : Str) : foundA T s = Plain.found cov cf T.toList s := by
  unfold foundA Plain.found ahead_
  simp only [list_get!, Array.length_toList]
  generalize List.countP (fun x => decide (cf x s < 0)) T.toList = n
  by_cases h1 : n < T.size
  · simp [h1]
  · simp [h1]
theorem found_key (l : List Str) (s : Str) : Plain.found cov cf l s = Plain.found cov (fun a b => Plain.cmpK (keyS a) (keyS b)) l s := rfl

/-- What a row of constraints is good for: it stands for a list of names. -/
structure Rests (l : List Str) (T : Array Str) : Prop where
  one : 1 ≤ T.size
  le : T.size ≤ l.length
  sorted : SortedK T
  tells : ∀ s, foundA T s = true ↔ ∃ x ∈ l, Plain.covK (keyS x) (keyS s)

theorem pairwise_of {d : Array Str} (h : SortedIn (ltOf cf) 0 d.size d) : d.toList.Pairwise (fun a b => Plain.leK (keyS a) (keyS b)) := by
  rw [List.pairwise_iff_getElem]
  intro i j hi hj hij
  have := h i j (Nat.zero_le _) hij (by simpa using hj)
  rw [lt_not] at this
  rw [getElem!_pos d i (by simpa using hi), getElem!_pos d j (by simpa using hj)] at this
  simpa using this

theorem sortedK_of {T : Array Str} (h : T.toList.Pairwise (fun a b => Plain.leK (keyS a) (keyS b))) : SortedK T := by
  intro a b hab hb
  rw [List.pairwise_iff_getElem] at h
  rw [getElem!_pos T a (by omega), getElem!_pos T b hb]
  rcases Nat.lt_or_eq_of_le hab with hlt | rfl
  · have := h a b (by simp; omega) (by simpa using hb) hlt
    simpa using this
  · exact Plain.leK_refl _

theorem rests_of {l : List Str} {d : Array Str} (hp : d.toList.Perm l) (hs : SortedIn (ltOf cf) 0 d.size d) (h1 : 1 ≤ l.length) {T : Array Str} (hT : T.toList = Plain.prune cov d.toList) : Rests l T := by
  have hpw := pairwise_of hs
  have hpr := Plain.pruned cov cov_refl d.toList
  rw [← hT] at hpr
  have hlen := hp.length_eq
  have hne : d.toList ≠ [] := fun h => by rw [h] at hlen; simp at hlen; omega
  refine ⟨?_, ?_, sortedK_of (hpw.sublist hpr.sub), fun s => ?_⟩
  · cases hd : d.toList with
    | nil => exact absurd hd hne
    | cons y ys =>
      obtain ⟨t, ht, _⟩ := hpr.all y (by rw [hd]; simp)
      have hp := List.length_pos_of_mem ht
      rw [Array.length_toList] at hp
      omega
  · have := hpr.sub.length_le
    simp at this hlen
    omega
  · rw [found_is, found_key, Plain.found_iff keyS cov cov_iff hpw hpr s hne]
    constructor
    · rintro ⟨x, hx, hc⟩; exact ⟨x, hp.mem_iff.1 hx, hc⟩
    · rintro ⟨x, hx, hc⟩; exact ⟨x, hp.mem_iff.2 hx, hc⟩

theorem perm_of {d d' : Array Str} (h : PermIn 0 d.size d d') : d'.toList.Perm d.toList := by
  have := h.2.2
  rw [← h.1] at this
  rw [Array.extract_size] at this
  rw [h.1] at this
  rwa [Array.extract_size] at this

theorem prune_any (P G cap : Nat) (l : List Str) (w : World) (h1 : 1 ≤ l.length) (hn : l.length ≤ 50) (hP : w.cell? ⟨P, 0, none⟩ = some (.slice (some ⟨G, 0, none⟩) l.length cap)) (hfP : w.frozen? ⟨P, 0, none⟩ = false)
    (hH : Holds enc w G 0 l.toArray) (hPG : P ≠ G) (hc1 : l.length ≤ cap) (hc2 : cap ≤ 9223372036854775807) :
    Calls Tryz.prog 38 #[.pointer (some ⟨P, 0, none⟩), .func (.func 39) #[] #[], .func (.func 40) #[] #[]] w fun e w' =>
      e = .returned (.tuple #[]) ∧ ∃ T : Array Str, Rests l T ∧ Holds enc w' G 0 T ∧ w'.cell? ⟨P, 0, none⟩ = some (.slice (some ⟨G, 0, none⟩) T.size cap) ∧ w'.frozen? ⟨P, 0, none⟩ = false ∧ Only (fun b => b = P ∨ b = G) w w' := by
  by_cases h2 : 2 ≤ l.length
  · have h := prune_calls P G cap l.toArray w (by simpa using h2) (by simp; omega) (by simpa using hP) hfP hH hPG (by simpa using hc1) hc2
    refine h.mono ?_
    rintro e w' ⟨he, d', dk, wi, hp, hs, hM, hHk, hPc, hPf, hO⟩
    refine ⟨he, (dk.toList.take wi).toArray, ?_, ?_, ?_, hPf, hO⟩
    · have hsz : d'.size = l.length := by have := hp.1; simpa using this
      refine rests_of (by simpa using perm_of hp) ?_ h1 ?_
      · intro i j a b c
        exact hs i j a b (by simpa [hsz] using c)
      · have hm := hM.2.1
        rw [List.take_of_length_le (l := d'.toList) (by simp; omega)] at hm
        exact hm
    · intro j hj
      have hj' : j < wi := by simp at hj; omega
      have hwd : wi ≤ dk.size := by have := hM.1; have := hM.2.2.2.2.1; have := hM.2.2.2.2.2; omega
      have := hHk j (by omega)
      rw [show ((dk.toList.take wi).toArray)[j]! = dk[j]! by
        rw [getElem!_pos _ j hj, getElem!_pos dk j (by omega)]
        simp]
      exact this
    · rw [show (dk.toList.take wi).toArray.size = wi by
        have := hM.1; have := hM.2.2.2.2.1; have := hM.2.2.2.2.2
        simp; omega]
      exact hPc
  · have hl1 : l.length = 1 := by omega
    have h := prune_small P G cap l.length w (by omega) hP
    refine h.mono ?_
    rintro e w' ⟨he, rfl⟩
    refine ⟨he, l.toArray, ?_, hH, by simpa using hP, hfP, Only.refl _ _⟩
    have hs : SortedIn (ltOf cf) 0 l.toArray.size l.toArray := by
      intro i j _ hij hj
      simp at hj
      omega
    refine rests_of (List.Perm.refl _) hs h1 ?_
    match l, hl1 with
    | [x], _ => simp [Plain.prune, Plain.pruneStep]
end Go.Proofs.YtbnelehiieglbaaGreatDoor
