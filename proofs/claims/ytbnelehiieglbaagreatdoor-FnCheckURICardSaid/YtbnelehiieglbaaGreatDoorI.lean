/- Names as constraints are sorted: texts of 1 to 2^31 - 1 bytes, none of them 0 or above 127; the order, what covers what, and that only some blocks of memory have turned. Sorting constraints and leaving out those that others cover: what the method leaves in memory. -/
import Derived.Test.YtbnelehiieglbaaGreatDoorC
import Derived.Test.YtbnelehiieglbaaGreatDoorE
import Derived.Test.YtbnelehiieglbaaGreatDoorS
import Derived.Deep.Draws
import Derived.Deep.QuietTactic
import Derived.BigQuiet
import Derived.StillTailTactics
namespace Go.Proofs.YtbnelehiieglbaaGreatDoor
open Go.RowKit Go.Proofs.YtbnelehiieglbaaGreatDoorW.PrintWords
open Go.Lib Go.Sort

/-- A name that may be a constraint, or a host in lower case. -/
def Str : Type := {s : ByteArray // 0 < s.size ∧ s.size ≤ 2147483647 ∧ ∀ b ∈ L s, b ≠ 0 ∧ b < 128}
instance : Inhabited Str := ⟨⟨⟨#[97]⟩, by decide, by decide, by decide⟩⟩
def enc (x : Str) : Value := .string x.1
def cf (x y : Str) : Int := Plain.dnsCmp (L x.1) (L y.1)
def keyS (x : Str) : List UInt8 := Plain.key (L x.1)
def cov (x y : Str) : Bool := Plain.suf (L x.1) (L y.1)

theorem enc_one : OneCell enc := fun _ => rfl
theorem nzS (x : Str) : Plain.nz (L x.1) := fun b hb => (x.2.2.2 b hb).1
theorem cov_iff (x y : Str) : cov x y = true ↔ Plain.covK (keyS x) (keyS y) := (Plain.cov_iff (nzS x) (nzS y)).symm
theorem cf_is (x y : Str) : cf x y = Plain.cmpK (keyS x) (keyS y) := rfl
theorem lt_is (x y : Str) : ltOf cf x y = true ↔ ¬ Plain.leK (keyS y) (keyS x) := by
  unfold ltOf
  rw [decide_eq_true_eq, cf_is, Plain.cmpK_neg]
theorem lt_not (x y : Str) : ltOf cf x y = false ↔ Plain.leK (keyS y) (keyS x) := by
  have := lt_is x y
  cases h : ltOf cf x y
  · rw [h] at this
    simp only [Bool.false_eq_true, false_iff, Classical.not_not] at this
    simp [this]
  · rw [h] at this
    simp only [true_iff] at this
    simp [this]

theorem swoS : SWO (ltOf cf) where
  irrefl x := (lt_not x x).2 (Plain.leK_refl _)
  trans x y z h1 h2 := by
    rw [lt_is] at *
    intro h
    rcases Plain.leK_total (keyS x) (keyS y) with h3 | h3
    · exact h2 (Plain.leK_trans _ _ _ h h3)
    · exact h1 h3
  ntrans x y z h1 h2 := by
    rw [lt_not] at *
    exact Plain.leK_trans _ _ _ h2 h1

theorem cmpLays (blk off size : Nat) (w : World) : CmpLays1 Tryz.prog 39 #[] enc cf blk off size w := by
  intro m os dk _ x y
  refine (compare_calls x.1 y.1 _ (by have := x.2.2.1; omega) (by have := y.2.2.1; omega)).mono ?_
  rintro e w' ⟨rfl, rfl⟩
  exact ⟨rfl, 0, #[.cells tabCells 120, .cells tabCells 120], by
    rw [alloc_eq_grow, alloc_eq_grow, grow_grow]; rfl⟩

theorem suffix_calls (x y : Str) (w : World) :
    Calls Tryz.prog 40 #[.string x.1, .string y.1] w fun e w' => e = .returned (.bool (cov x y)) ∧ Drawn0 w w' := by
  obtain ⟨k, hk⟩ := suffix_tells x.1 y.1 (by have := x.2.2.1; omega) (by have := y.2.2.1; omega) x.2.1
  exact PFnCheckURI.nameconstraints_dnsHasSuffix.calls k x.1 y.1 _ w hk

/-- Only the blocks of S, and new ones, have turned. -/
structure Only (S : Nat → Prop) (w w' : World) : Prop where
  os : w'.os = w.os
  tape : w'.tape = w.tape
  output : w'.output = w.output
  size : w.heap.size ≤ w'.heap.size
  block : ∀ b, b < w.heap.size → ¬ S b → w'.heap[b]? = w.heap[b]?

namespace Only
variable {S : Nat → Prop} {w w1 w2 : World}
theorem refl (S : Nat → Prop) (w : World) : Only S w w := ⟨rfl, rfl, rfl, Nat.le_refl _, fun _ _ _ => rfl⟩
theorem trans (h : Only S w w1) (k : Only S w1 w2) : Only S w w2 :=
  ⟨k.os.trans h.os, k.tape.trans h.tape, k.output.trans h.output, Nat.le_trans h.size k.size, fun b hb hn => (k.block b (Nat.lt_of_lt_of_le hb h.size) hn).trans (h.block b hb hn)⟩
theorem drewN (h : Only S w w1) (n : Nat) : Only S w (w1.drewN n) := ⟨h.os, h.tape, h.output, h.size, h.block⟩
theorem drew (h : Only S w w1) : Only S w w1.drew := ⟨h.os, h.tape, h.output, h.size, h.block⟩
theorem alloc (h : Only S w w1) (o : Obj) : Only S w (w1.alloc o) :=
  ⟨h.os, h.tape, h.output, Nat.le_trans h.size (by simp), fun b hb hn => (Below.heap_alloc w1 o b (Nat.lt_of_lt_of_le hb h.size)).trans (h.block b hb hn)⟩
theorem setCell (h : Only S w w1) {p : Addr} (hp : S p.block ∨ w.heap.size ≤ p.block) (u : Value) : Only S w (w1.setCell p u) :=
  ⟨h.os, h.tape, h.output, by simpa [World.setCell] using h.size, fun b hb hn => (Below.heap_setCell w1 p u b (by
    rintro rfl
    rcases hp with hp | hp
    · exact hn hp
    · omega)).trans (h.block b hb hn)⟩
theorem of_below (h : Below w.heap.size w w1) : Only S w w1 := ⟨h.os, h.tape, h.output, h.size, fun b hb _ => h.block b hb⟩
theorem below {B : Nat} {w0 : World} (h : Only S w w1) (hb : Below B w0 w) (hB : B ≤ w.heap.size) (hS : ∀ b, S b → B ≤ b) : Below B w0 w1 :=
  ⟨h.os.trans hb.os, h.tape.trans hb.tape, h.output.trans hb.output, Nat.le_trans hb.size h.size, fun b hlt => (h.block b (by omega) (fun hs => by have := hS b hs; omega)).trans (hb.block b hlt)⟩
theorem mono {S' : Nat → Prop} (h : Only S w w1) (hS : ∀ b, S b → S' b) : Only S' w w1 := ⟨h.os, h.tape, h.output, h.size, fun b hb hn => h.block b hb (fun hs => hn (hS b hs))⟩
theorem cell (h : Only S w w1) {a : Addr} (ha : a.block < w.heap.size) (hn : ¬ S a.block) : w1.cell? a = w.cell? a := World.cell?_of_block (h.block a.block ha hn)
theorem frozen (h : Only S w w1) {a : Addr} (ha : a.block < w.heap.size) (hn : ¬ S a.block) : w1.frozen? a = w.frozen? a := World.frozen?_of_block (h.block a.block ha hn)
end Only

theorem only_sort (w : World) (blk off n : Nat) (d : Array Str) (os : Array Obj) : Only (fun b => b = blk) w (sortWorld enc w blk off n d os) := by
  unfold sortWorld
  refine ⟨rfl, rfl, rfl, ?_, fun b hb hn => ?_⟩
  · rw [size_grow, Sort.size_putRow]
    show w.heap.size ≤ w.heap.size + _
    omega
  · rw [heap_grow_old _ _ (by rw [Sort.size_putRow]; exact hb)]
    unfold putRow mapBlock
    simp only [Array.getElem?_modify]
    rw [if_neg (fun e => hn e.symm)]
    rfl
theorem only_sw {w W : World} {blk off : Nat} {d : Array Str} (h : SW enc w blk off d W) : Only (fun b => b = blk) w W := by
  obtain ⟨n, os, rfl⟩ := h
  exact only_sort w blk off n d os

/-- A store into the row. -/
theorem holds_set {w : World} {G : Nat} {d : Array Str} (h : Holds enc w G 0 d) (i : Nat) (x : Str) (hi : i < d.size) : Holds enc (w.setCell ⟨G, i, none⟩ (enc x)) G 0 (d.setIfInBounds i x) := by
  intro j hj
  rw [Array.size_setIfInBounds] at hj
  obtain ⟨h1, h2⟩ := h j hj
  obtain ⟨h3, _⟩ := h i hi
  simp only [Nat.zero_add] at h1 h2 h3 ⊢
  refine ⟨?_, ?_⟩
  · by_cases e : j = i
    · subst e
      rw [getElem!_set_same _ _ _ hj]
      exact World.cell?_setCell_same w ⟨G, j, none⟩ _ h3
    · rw [getElem!_set_other _ _ _ _ e]
      rw [World.cell?_setCell_other w _ _ _ (fun h => by injection h with _ h; exact e h.symm)]
      exact h1
  · rw [World.frozen?_setCell]
    exact h2
end Go.Proofs.YtbnelehiieglbaaGreatDoor
namespace Go.Proofs.YtbnelehiieglbaaGreatDoor
open Go.RowKit Go.Proofs.YtbnelehiieglbaaGreatDoorW.PrintWords
open Go.Lib Go.Sort

/-- What holds behind r rounds: the first wi cells bear what is left of the first r names, those from r on are as they were. -/
def Mid (d dk : Array Str) (wi r : Nat) : Prop :=
  dk.size = d.size ∧ dk.toList.take wi = Plain.prune cov (d.toList.take r) ∧ dk.toList.drop r = d.toList.drop r ∧ 1 ≤ wi ∧ wi ≤ r ∧ r ≤ d.size

theorem cov_refl (x : Str) : cov x x = true := by rw [cov_iff]; exact Plain.covK_refl _

theorem mid_start (d : Array Str) (h : 2 ≤ d.size) : Mid d d 1 1 := by
  refine ⟨rfl, ?_, rfl, Nat.le_refl _, Nat.le_refl _, by omega⟩
  rw [List.take_succ_eq_append_getElem (by simpa using (by omega : 0 < d.size))]
  simp [Plain.prune, Plain.pruneStep]

theorem mid_last {d dk : Array Str} {wi r : Nat} (h : Mid d dk wi r) : (Plain.prune cov (d.toList.take r)).getLast? = some dk[wi - 1]! := by
  obtain ⟨h1, h2, _, h4, h5, h6⟩ := h
  rw [← h2, List.getLast?_eq_getElem?, List.length_take, Array.length_toList, Nat.min_eq_left (by omega), List.getElem?_take_of_lt (by omega)]
  rw [Array.getElem?_toList, getElem!_pos dk (wi - 1) (by omega), Array.getElem?_eq_getElem]

theorem mid_at {d dk : Array Str} {wi r : Nat} (h : Mid d dk wi r) (hr : r < d.size) : dk[r]! = d[r]! := by
  obtain ⟨h1, _, h3, _, _, _⟩ := h
  have := congrArg List.head? h3
  rw [List.head?_drop, List.head?_drop, Array.getElem?_toList, Array.getElem?_toList, Array.getElem?_eq_getElem (by omega), Array.getElem?_eq_getElem hr] at this
  rw [getElem!_pos dk r (by omega), getElem!_pos d r hr]
  exact Option.some.inj this

theorem prune_at (d : Array Str) (r : Nat) (hr : r < d.size) : Plain.prune cov (d.toList.take (r + 1)) = Plain.pruneStep cov (Plain.prune cov (d.toList.take r)) d[r]! := by
  rw [List.take_succ_eq_append_getElem (by simpa using hr), Plain.prune_snoc, getElem!_pos d r hr, Array.getElem_toList]

theorem mid_skip {d dk : Array Str} {wi r : Nat} (h : Mid d dk wi r) (hr : r < d.size) (hc : cov dk[wi - 1]! dk[r]! = true) : Mid d dk wi (r + 1) := by
  have hl := mid_last h
  have ha := mid_at h hr
  obtain ⟨h1, h2, h3, h4, h5, h6⟩ := h
  refine ⟨h1, ?_, ?_, h4, by omega, by omega⟩
  · rw [prune_at d r hr, h2]
    unfold Plain.pruneStep
    rw [hl]
    dsimp only
    rw [← ha, if_pos hc]
  · rw [← List.drop_drop, ← List.drop_drop, h3]

theorem mid_put {d dk : Array Str} {wi r : Nat} (h : Mid d dk wi r) (hr : r < d.size) (hc : cov dk[wi - 1]! dk[r]! = false) : Mid d (dk.setIfInBounds wi dk[r]!) (wi + 1) (r + 1) := by
  have hl := mid_last h
  have ha := mid_at h hr
  obtain ⟨h1, h2, h3, h4, h5, h6⟩ := h
  refine ⟨by rw [Array.size_setIfInBounds, h1], ?_, ?_, by omega, by omega, by omega⟩
  · rw [prune_at d r hr]
    unfold Plain.pruneStep
    rw [hl]
    dsimp only
    rw [← ha, hc, if_neg Bool.false_ne_true, ← h2]
    rw [List.take_succ_eq_append_getElem (by rw [Array.length_toList, Array.size_setIfInBounds]; omega), Array.getElem_toList, Array.getElem_setIfInBounds_self, Array.toList_setIfInBounds, List.take_set_of_le (Nat.le_refl _)]
  · rw [Array.toList_setIfInBounds, List.drop_set_of_lt (by omega), ← List.drop_drop, ← List.drop_drop, h3]

theorem enters39 : ∀ args w, (callFunc 39 args).run Tryz.prog w = .ok (.enter 39 args) w := enters_of Tryz.func39 (by kernel_rfl) rfl

set_option maxHeartbeats 400000 in
theorem prune_small (P G cap : Nat) (n : Nat) (w : World) (hn : n < 2) (hP : w.cell? ⟨P, 0, none⟩ = some (.slice (some ⟨G, 0, none⟩) n cap)) :
    Calls Tryz.prog 38 #[.pointer (some ⟨P, 0, none⟩), .func (.func 39) #[] #[], .func (.func 40) #[] #[]] w fun e w' => e = .returned (.tuple #[]) ∧ w = w' := by
  go_enter Tryz.func38, Tryz.ntmps38
  go_wp2
  refine bodyPost_ret (results_none rfl _ _ _) rfl ?_
  exact ⟨rfl, rfl⟩

set_option maxHeartbeats 1600000 in
set_option maxRecDepth 100000 in
theorem prune_calls (P G cap : Nat) (d : Array Str) (w : World) (h2 : 2 ≤ d.size) (hn : d.size ≤ 1048576) (hP : w.cell? ⟨P, 0, none⟩ = some (.slice (some ⟨G, 0, none⟩) d.size cap)) (hfP : w.frozen? ⟨P, 0, none⟩ = false)
    (hH : Holds enc w G 0 d) (hPG : P ≠ G) (hc1 : d.size ≤ cap) (hc2 : cap ≤ 9223372036854775807) :
    Calls Tryz.prog 38 #[.pointer (some ⟨P, 0, none⟩), .func (.func 39) #[] #[], .func (.func 40) #[] #[]] w fun e w' =>
      e = .returned (.tuple #[]) ∧ ∃ (d' dk : Array Str) (wi : Nat), PermIn 0 d.size d d' ∧ SortedIn (ltOf cf) 0 d.size d' ∧ Mid d' dk wi d.size ∧ Holds enc w' G 0 dk ∧
        w'.cell? ⟨P, 0, none⟩ = some (.slice (some ⟨G, 0, none⟩) wi cap) ∧ w'.frozen? ⟨P, 0, none⟩ = false ∧ Only (fun b => b = P ∨ b = G) w w' := by
  have hGlt : G < w.heap.size := World.block_lt_of_cell? w _ (hH 0 (by omega)).1
  have hPlt : P < w.heap.size := World.block_lt_of_cell? w _ hP
  have hs := Tryz.slices_SortFunc enc enc_one cf swoS 39 #[] G 0 cap d w enters39 (cmpLays G 0 d.size w) hH hGlt (by omega)
  have HS := Aside0.mk hs
  have HH := Aside0.mk hH
  have HF := Aside0.mk hfP
  clear hs hH hfP
  go_enter Tryz.func38, Tryz.ntmps38
  go_wp2_with fail
  refine HS.out.mono ?_
  rintro e w1 ⟨rfl, d', nn, os, hp, hsd, hw1⟩
  have hsize : d'.size = d.size := hp.1
  have hH1 : Holds enc w1 G 0 d' := by rw [hw1]; exact holds_sortWorld enc w G 0 nn d d' os hGlt HH.out hsize
  have hO1 : Only (fun b => b = P ∨ b = G) w w1 := by rw [hw1]; exact (only_sort w G 0 nn d' os).mono (fun b h => Or.inr h)
  have hPc : w1.cell? ⟨P, 0, none⟩ = some (.slice (some ⟨G, 0, none⟩) d.size cap) := by
    rw [hw1, (only_sort w G 0 nn d' os).cell (a := ⟨P, 0, none⟩) hPlt hPG]; exact hP
  have hPf : w1.frozen? ⟨P, 0, none⟩ = false := by
    rw [hw1, (only_sort w G 0 nn d' os).frozen (a := ⟨P, 0, none⟩) hPlt hPG]; exact HF.out
  have HP := Aside0.mk hp
  have HSD := Aside0.mk hsd
  have HSZ := Aside0.mk hsize
  have HH1 := Aside0.mk hH1
  have HO1 := Aside0.mk hO1
  have HPF := Aside0.mk hPf
  have HPC := Aside0.mk hPc
  clear hw1 hp hsd hsize hH1 hO1 hPf HS HH HF hP
  go_wp2_with fail
  clear hPc
  go_loopw [6, 7] (fun i j wr => ∃ (wi r : Nat) (dk : Array Str), i = .int .i64 wi ∧ j = .int .i64 r ∧ 1 ≤ wi ∧ wi ≤ r ∧ r ≤ d.size ∧ Aside0 (Mid d' dk wi r) ∧ Aside0 (Holds enc wr G 0 dk) ∧
      Aside0 (wr.cell? ⟨P, 0, none⟩ = some (.slice (some ⟨G, 0, none⟩) d.size cap)) ∧ Aside0 (wr.frozen? ⟨P, 0, none⟩ = false) ∧ Aside0 (Only (fun b => b = P ∨ b = G) w wr)) (fun _ j _ => d.size - (intOf j).toNat)
  case atStart => exact ⟨1, 1, d', rfl, rfl, Nat.le_refl _, Nat.le_refl _, by omega, ⟨mid_start d' (by rw [HSZ.out]; omega)⟩, HH1, HPC, HPF, HO1⟩
  case round =>
    clear HPC HPF HO1 HH1
    obtain ⟨wi, r, dk, rfl, rfl, h1, h1r, hr, HM, HHk, HPC, HPF, HO⟩ := hrel
    by_cases hlt : r < d.size
    · have hdk : dk.size = d.size := HM.out.1.trans HSZ.out
      have hcP := HPC.out
      have hc1 := (HHk.out (wi - 1) (by omega)).1
      have hc2 := (HHk.out r (by omega)).1
      simp only [Nat.zero_add] at hc1 hc2
      obtain ⟨x, hx⟩ : ∃ x, x = dk[wi - 1]! := ⟨_, rfl⟩
      obtain ⟨y, hy⟩ : ∃ y, y = dk[r]! := ⟨_, rfl⟩
      rw [← hx] at hc1
      rw [← hy] at hc2
      have HX := Aside0.mk hx
      have HY := Aside0.mk hy
      have HDK := Aside0.mk hdk
      clear hx hy hdk
      have hq : ∀ W, Calls Tryz.prog 40 #[enc x, enc y] W fun e w' => e = .returned (.bool (cov x y)) ∧ ∃ n, w' = W.drewN n := fun W => (suffix_calls x y W).mono fun _ _ ⟨he, hd⟩ => ⟨he, hd.out⟩
      obtain ⟨ex, hex⟩ : ∃ v : ByteArray, .string v = enc x := ⟨x.1, rfl⟩
      obtain ⟨ey, hey⟩ : ∃ v : ByteArray, .string v = enc y := ⟨y.1, rfl⟩
      rw [← hex] at hc1 hq
      rw [← hey] at hc2 hq
      have HEX := Aside0.mk hex
      have HEY := Aside0.mk hey
      have HQ := Aside0.mk hq
      clear hex hey hq
      have e1 : IntKind.i64.wrap ((wi : Int) - 1) = (wi : Int) - 1 := IntWalk.i64_in _ (by omega)
      have e2 : ((wi : Int) - 1).toNat = wi - 1 := by omega
      have e3 : (0 : Int) ≤ (wi : Int) - 1 := by omega
      have e4 : (wi : Int) - 1 < d.size := by omega
      have e5 : (0 : Int) ≤ (r : Int) := by omega
      have e6 : (r : Int) < d.size := by omega
      cases hcv : cov x y with
      | true =>
        have HCV := Aside0.mk hcv
        rw [hcv] at HQ
        clear hcv
        go_wp2_with fail
        go_quiet ((go_at_call 40; exact Calls.quiet_of (HQ.out _)))
        clear e1 e2 e3 e4 e5 e6
        go_wp2_with fail
        go_roundw
        case rel => exact ⟨wi, r + 1, dk, by go_num, by go_num, by omega, by omega, by omega, ⟨mid_skip HM.out (by have := HSZ.out; omega) (by rw [← HX.out, ← HY.out]; exact HCV.out)⟩, ⟨HHk.out⟩, ⟨HPC.out⟩, ⟨HPF.out⟩, ⟨HO.out.drewN _⟩⟩
        case measure => simp [intOf]; omega
      | false =>
        have HCV := Aside0.mk hcv
        rw [hcv] at HQ
        clear hcv
        go_wp2_with fail
        go_quiet ((go_at_call 40; exact Calls.quiet_of (HQ.out _)))
        clear e1 e2 e3 e4 HQ hc1
        go_wp2_with fail
        obtain ⟨w5, hw5⟩ : ∃ w5, w5 = wr.drewN nq := ⟨_, rfl⟩
        have k1 : w5.cell? ⟨P, 0, none⟩ = some (.slice (some ⟨G, 0, none⟩) d.size cap) := by rw [hw5]; exact HPC.out
        have k2 : w5.cell? ⟨G, r, none⟩ = some (.string ey) := by rw [hw5]; exact hc2
        have hk5 : Holds enc w5 G 0 dk := by rw [hw5]; exact HHk.out
        have ho5 : Only (fun b => b = P ∨ b = G) w w5 := by rw [hw5]; exact HO.out.drewN _
        have hpf5 : w5.frozen? ⟨P, 0, none⟩ = false := by rw [hw5]; exact HPF.out
        rw [← hw5]
        have k3 := (hk5 wi (by have := HDK.out; omega)).1
        have k4 := (hk5 wi (by have := HDK.out; omega)).2
        simp only [Nat.zero_add] at k3 k4
        obtain ⟨eo, heo⟩ : ∃ v : ByteArray, .string v = enc dk[wi]! := ⟨_, rfl⟩
        rw [← heo] at k3
        have HK5 := Aside0.mk hk5
        have HO5 := Aside0.mk ho5
        have HPF5 := Aside0.mk hpf5
        clear hw5 hk5 ho5 hpf5 hc2 hcP HHk HPC HPF HO heo
        have f1 : (0 : Int) ≤ (wi : Int) := by omega
        have f2 : (wi : Int) < d.size := by omega
        go_still_tail 13, (by kernel_rfl)
        change wpList _ _ _ _ _ w5.drew
        have k6 : w5.drew.cell? ⟨G, wi, none⟩ = some (.string eo) := k3
        have k7 : w5.drew.frozen? ⟨G, wi, none⟩ = false := k4
        have HH6 : Aside0 (Holds enc (w5.drew.setCell ⟨G, wi, none⟩ (.string ey)) G 0 (dk.setIfInBounds wi dk[r]!)) := by
          rw [← HY.out, HEY.out]
          exact ⟨holds_set HK5.out wi y (by have := HDK.out; omega)⟩
        have HO6 : Aside0 (Only (fun b => b = P ∨ b = G) w (w5.drew.setCell ⟨G, wi, none⟩ (.string ey))) := ⟨(HO5.out.drew).setCell (Or.inl (Or.inr rfl)) _⟩
        have HP6 : Aside0 ((w5.drew.setCell ⟨G, wi, none⟩ (.string ey)).cell? ⟨P, 0, none⟩ = some (.slice (some ⟨G, 0, none⟩) d.size cap)) := by
          rw [World.cell?_setCell_other w5.drew _ _ _ (fun h => by injection h with h; exact hPG h.symm)]
          exact ⟨k1⟩
        have HF6 : Aside0 ((w5.drew.setCell ⟨G, wi, none⟩ (.string ey)).frozen? ⟨P, 0, none⟩ = false) := by
          rw [World.frozen?_setCell]
          exact ⟨HPF5.out⟩
        generalize w5.drew = w6 at *
        clear k1 k2 k3 k4 HK5 HO5 HPF5 e5 e6 f1 f2
        go_wp2_with fail
        go_roundw
        case rel => exact ⟨wi + 1, r + 1, _, by go_num, by go_num, by omega, by omega, by omega, ⟨mid_put HM.out (by have := HSZ.out; omega) (by rw [← HX.out, ← HY.out]; exact HCV.out)⟩, HH6, HP6, HF6, HO6⟩
        case measure => simp [intOf]; omega
    · obtain rfl : r = d.size := by omega
      have hcP := HPC.out
      have hfP := HPF.out
      have HO6 : Aside0 (Only (fun b => b = P ∨ b = G) w (wr.setCell ⟨P, 0, none⟩ (.slice (some ⟨G, 0, none⟩) wi cap))) := ⟨HO.out.setCell (Or.inl (Or.inl rfl)) _⟩
      have HP6 : Aside0 ((wr.setCell ⟨P, 0, none⟩ (.slice (some ⟨G, 0, none⟩) wi cap)).cell? ⟨P, 0, none⟩ = some (.slice (some ⟨G, 0, none⟩) wi cap)) := ⟨World.cell?_setCell_same _ _ _ hcP⟩
      have HF6 : Aside0 ((wr.setCell ⟨P, 0, none⟩ (.slice (some ⟨G, 0, none⟩) wi cap)).frozen? ⟨P, 0, none⟩ = false) := by
        rw [World.frozen?_setCell]; exact ⟨hfP⟩
      have HH6 : Aside0 (Holds enc (wr.setCell ⟨P, 0, none⟩ (.slice (some ⟨G, 0, none⟩) wi cap)) G 0 dk) := by
        refine ⟨fun j hj => ?_⟩
        obtain ⟨q1, q2⟩ := HHk.out j hj
        rw [World.cell?_setCell_other wr _ _ _ (fun h => by injection h with h; exact hPG h), World.frozen?_setCell]
        exact ⟨q1, q2⟩
      go_wp2_with fail
      go_end0
      exact ⟨rfl, d', dk, wi, HP.out, HSD.out, HM.out, HH6.out, HP6.out, HF6.out, HO6.out⟩
end Go.Proofs.YtbnelehiieglbaaGreatDoor
