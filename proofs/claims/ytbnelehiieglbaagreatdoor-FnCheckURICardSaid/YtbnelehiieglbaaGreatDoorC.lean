/- The reference's small functions on bytes and texts: what each call returns, every byte and every text. The table of the order: what its function returns. No condition. The comparison of two names: what its function returns; texts of at most 2^40 bytes. -/
import Derived.Test.YtbnelehiieglbaaGreatDoorProg
import Derived.Test.YtbnelehiieglbaaGreatDoorPlain
import Derived.WalkKit
import Derived.WalkSpells
import Derived.WalkLawsBesides
import Derived.Lib.Hide
namespace Go.Proofs.YtbnelehiieglbaaGreatDoor
open Go.RowKit

theorem ret_int {k : IntKind} {a b : Int} (h : a = b) : Ending.returned (.int k a) = .returned (.int k b) := by rw [h]
theorem ret_bool {a b : Bool} (h : a = b) : Ending.returned (.bool a) = .returned (.bool b) := by rw [h]
theorem ret_string {a b : ByteArray} (h : a = b) : Ending.returned (.string a) = .returned (.string b) := by rw [h]

/-- A byte in lower case, as a number. -/
def lowI (c : Int) : Int := if 65 ≤ c ∧ c ≤ 90 then c + 32 else c

theorem lowI_byte (b : UInt8) : lowI b.toNat = (Plain.lowB b).toNat := by
  revert b; exact Plain.forall_u8 _ (by decide +kernel)

set_option maxHeartbeats 400000 in
theorem lower_calls (c : Int) (w : World) (h0 : 0 ≤ c) (h1 : c ≤ 255) :
    Calls Tryz.prog 17 #[.int .u8 c] w fun e w' => e = .returned (.int .u8 (lowI c)) ∧ w = w' := by
  by_cases ha : 65 ≤ c
  · by_cases hb : c ≤ 90
    · go_enter Tryz.func17, Tryz.ntmps17
      go_wp2
      go_ret
      exact ⟨ret_int (by rw [lowI, if_pos ⟨ha, hb⟩]), rfl⟩
    · go_enter Tryz.func17, Tryz.ntmps17
      go_wp2
      go_ret
      exact ⟨ret_int (by rw [lowI, if_neg (by omega)]), rfl⟩
  · go_enter Tryz.func17, Tryz.ntmps17
    go_wp2
    go_ret
    exact ⟨ret_int (by rw [lowI, if_neg (by omega)]), rfl⟩

theorem byte_range (b : UInt8) : (0 : Int) ≤ b.toNat ∧ (b.toNat : Int) ≤ 255 := by
  have := b.toNat_lt
  omega

theorem lower_byte (b : UInt8) (w : World) :
    Calls Tryz.prog 17 #[.int .u8 b.toNat] w fun e w' => e = .returned (.int .u8 (Plain.lowB b).toNat) ∧ w = w' := by
  rw [← lowI_byte]
  exact lower_calls _ w (byte_range b).1 (byte_range b).2
end Go.Proofs.YtbnelehiieglbaaGreatDoor
namespace Go.Proofs.YtbnelehiieglbaaGreatDoor
open Go.RowKit

/-- The table behind k rounds. -/
def tcells (k : Nat) : Array Value := Array.ofFn (n := 256) fun i => .int .u8 (if i.val < k then lowI i.val else 0)
theorem tcells_zero : Tryz.zeroCells120 = tcells 0 := by kernel_rfl
theorem tcells_size (k : Nat) : (tcells k).size = 256 := by simp [tcells]
theorem tcells_get (k i : Nat) (hi : i < 256) : (tcells k)[i]? = some (.int .u8 (if i < k then lowI i else 0)) := by
  unfold tcells
  rw [Array.getElem?_ofFn, dif_pos hi]
theorem tcells_succ (k : Nat) (hk : k < 256) : (tcells k).setIfInBounds k (.int .u8 (lowI k)) = tcells (k + 1) := by
  apply Array.ext_getElem?
  intro i
  rw [Array.getElem?_setIfInBounds]
  by_cases hi : i < 256
  · by_cases e : k = i
    · subst e
      rw [if_pos rfl, if_pos (by rw [tcells_size]; exact hk), tcells_get _ _ hk, if_pos (by omega)]
    · rw [if_neg e, tcells_get _ _ hi, tcells_get _ _ hi]
      by_cases h : i < k
      · rw [if_pos h, if_pos (by omega)]
      · rw [if_neg h, if_neg (by omega)]
  · rw [if_neg (by omega), Array.getElem?_eq_none (by rw [tcells_size]; omega), Array.getElem?_eq_none (by rw [tcells_size]; omega)]
/-- The table. -/
def tabCells : Array Value := (tcells 256).setIfInBounds 46 (.int .u8 0)

theorem tabCells_size : (Tryz.prog.info? 120).map (·.size) = some tabCells.size := by kernel_rfl
theorem tabCells_one : tabCells.all (·.oneCell') = true := by kernel_rfl
theorem tab_facts (w : World) (k : Nat) (cs : Array Value) (h : cs = tcells k) : (∀ i : Nat, i < 256 → (w.alloc (.cells cs 120)).cell? ⟨w.heap.size, i, none⟩ = some (.int .u8 (if i < k then lowI i else 0))) ∧ (∀ i : Nat, (w.alloc (.cells cs 120)).frozen? ⟨w.heap.size, i, none⟩ = false) := by
  subst h
  exact ⟨fun i hi => by rw [World.cell?_alloc_at _ _ _ _ rfl, tcells_get _ _ hi], fun i => World.frozen?_alloc_at _ _ _ _ rfl⟩

set_option maxHeartbeats 400000 in
set_option maxRecDepth 100000 in
theorem table_calls (w : World) :
    Calls Tryz.prog 62 #[] w fun e w' => e = .returned (.agg tabCells) ∧ w' = w.alloc (.cells tabCells 120) := by
  obtain ⟨cz, z0⟩ : ∃ cz, Tryz.zeroCells120 = cz := ⟨_, rfl⟩
  have HZ : Hid (cz = tcells 0) := by rw [← z0]; exact tcells_zero
  go_enter Tryz.func62, Tryz.ntmps62
  go_wp2
  clear z0
  go_loopw [1] (fun i wr => ∃ (k : Nat) (cs : Array Value), k ≤ 256 ∧ i = .int .i64 k ∧ wr = w.alloc (.cells cs 120) ∧ Hid (cs = tcells k)) (fun i _ => 256 - (intOf i).toNat)
  case atStart => exact ⟨0, cz, by omega, rfl, rfl, HZ⟩
  case round =>
    obtain ⟨k, cs, hk, rfl, rfl, HC⟩ := hrel
    have hf := (tab_facts w k cs HC.out).2 k
    by_cases hlt : k < 256
    · have hc : (w.alloc (.cells cs 120)).cell? ⟨w.heap.size, k, none⟩ = some (.int .u8 0) := by rw [(tab_facts w k cs HC.out).1 k hlt, if_neg (by omega)]
      have HS : Hid (cs.setIfInBounds k (.int .u8 (lowI k)) = tcells (k + 1)) := by rw [HC.out]; exact tcells_succ k hlt
      clear HC
      by_cases h12 : 65 ≤ k ∧ k ≤ 90
      · obtain ⟨h1, h2⟩ := h12
        have hl : lowI k = k + 32 := by rw [lowI, if_pos (by omega)]
        rw [hl] at HS
        clear hl
        go_wp2
        go_roundw
        case rel => exact ⟨k + 1, _, by omega, by go_num, rfl, HS⟩
        case measure => simp [intOf]; omega
      · have hl : lowI k = k := by rw [lowI, if_neg (by omega)]
        rw [hl] at HS
        clear hl
        by_cases h1 : 65 ≤ k
        · have h2 : 90 < k := by omega
          clear h12
          go_wp2
          go_roundw
          case rel => exact ⟨k + 1, _, by omega, by go_num, rfl, HS⟩
          case measure => simp [intOf]; omega
        · clear h12
          go_wp2
          go_roundw
          case rel => exact ⟨k + 1, _, by omega, by go_num, rfl, HS⟩
          case measure => simp [intOf]; omega
    · obtain rfl : k = 256 := by omega
      clear hf hlt
      have c46 : (w.alloc (.cells cs 120)).cell? ⟨w.heap.size, 46, none⟩ = some (.int .u8 46) := (tab_facts w 256 cs HC.out).1 46 (by omega)
      have f46 := (tab_facts w 256 cs HC.out).2 46
      have HS : Hid (cs.setIfInBounds 46 (.int .u8 0) = tabCells) := by rw [HC.out]; rfl
      clear HC
      have hsz : (Tryz.prog.info? 120).map (·.size) = some (cs.setIfInBounds 46 (.int .u8 0)).size := by
        rw [HS.out]; exact tabCells_size
      have hall : (cs.setIfInBounds 46 (.int .u8 0)).all (·.oneCell') = true := by rw [HS.out]; exact tabCells_one
      obtain ⟨cs2, e2⟩ : ∃ cs2, cs.setIfInBounds 46 (.int .u8 0) = cs2 := ⟨_, rfl⟩
      rw [e2] at HS hsz hall
      have HSZ := Lib.hid hsz
      have HALL := Lib.hid hall
      clear hsz hall
      go_wp2_with (first
        | (refine wpList_load_row rfl 120 _ rfl w.heap.size rfl 120 cs2 (0, 0) _ (heap_alloc_new _ _) Tryz.underlying120 rfl HSZ.out ?_)
        | (refine wpList_store_row rfl 120 _ _ rfl w.heap.size cs2 rfl rfl 120 cs2 (heap_alloc_new _ _) HSZ.out rfl HALL.out ?_))
      have hrow : (w.alloc (.cells cs2 120)).setRow w.heap.size cs2 = w.alloc (.cells cs2 120) := setRow_self _ _ _ 120 (0, 0) (heap_alloc_new _ _)
      rw [hrow]
      refine bodyPost_ret (v := .agg cs2) (results_cell_row (p := 0) (ty := 120) rfl _ _ w.heap.size 120 cs2 (0, 0) _ rfl (heap_alloc_new _ _) Tryz.underlying120 rfl HSZ.out) rfl ?_
      rw [HS.out]
      exact ⟨rfl, rfl⟩
end Go.Proofs.YtbnelehiieglbaaGreatDoor
namespace Go.Proofs.YtbnelehiieglbaaGreatDoor
open Go.RowKit

theorem tabCells_get (b : UInt8) : tabCells[b.toNat]? = some (.int .u8 (Plain.tab b).toNat) := by
  have hb := b.toNat_lt
  unfold tabCells Plain.tab
  rw [Array.getElem?_setIfInBounds]
  by_cases e : b = 46
  · subst e
    have h46 : UInt8.toNat 46 = 46 := rfl
    rw [h46, if_pos rfl, if_pos (by rw [tcells_size]; omega), if_pos rfl]
    rfl
  · have hne : 46 ≠ b.toNat := fun h => e (UInt8.toNat_inj.1 (by rw [← h]; rfl))
    rw [if_neg hne, if_neg e, tcells_get _ _ hb, if_pos hb, lowI_byte]

theorem setRow_alloc (w : World) (old new : Array Value) (t : TypeId) : (w.alloc (.cells old t)).setRow w.heap.size new = w.alloc (.cells new t) := by
  unfold World.setRow World.alloc
  simp only [World.mk.injEq, and_true]
  apply Array.ext_getElem?
  intro i
  rw [Array.getElem?_modify, Array.getElem?_push, Array.getElem?_push]
  by_cases h : i = w.heap.size
  · subst h; simp
  · simp [h, Ne.symm h]

theorem key_snoc (l : List UInt8) (x : UInt8) : Plain.key (l ++ [x]) = Plain.tab x :: Plain.key l := by simp [Plain.key]

theorem take_snoc (s : ByteArray) (k : Nat) (h : k < s.size) : s.data.toList.take (k + 1) = s.data.toList.take k ++ [s[k]] := by
  rw [List.take_succ_eq_append_getElem (by simpa using h)]; rfl

/-- The comparison of what stands ahead of two places. -/
def cmpAt (a b : ByteArray) (p q : Nat) : Int := Plain.dnsCmp (a.data.toList.take p) (b.data.toList.take q)
theorem cmpAt_succ (a b : ByteArray) (p q : Nat) (hp : p < a.size) (hq : q < b.size) :
    cmpAt a b (p + 1) (q + 1) = if Plain.tab a[p] = Plain.tab b[q] then cmpAt a b p q else if Plain.tab a[p] < Plain.tab b[q] then -1 else 1 := by
  unfold cmpAt Plain.dnsCmp
  rw [take_snoc a p hp, take_snoc b q hq, key_snoc, key_snoc]
  rfl
theorem cmpAt_zero (a b : ByteArray) : cmpAt a b 0 0 = 0 := by simp [cmpAt, Plain.dnsCmp, Plain.key, Plain.cmpK]
theorem cmpAt_left (a b : ByteArray) (q : Nat) (hq : q < b.size) : cmpAt a b 0 (q + 1) = -1 := by
  unfold cmpAt Plain.dnsCmp
  rw [take_snoc b q hq, key_snoc]
  simp [Plain.key, Plain.cmpK]
theorem cmpAt_right (a b : ByteArray) (p : Nat) (hp : p < a.size) : cmpAt a b (p + 1) 0 = 1 := by
  unfold cmpAt Plain.dnsCmp
  rw [take_snoc a p hp, key_snoc]
  simp [Plain.key, Plain.cmpK]
theorem cmpAt_all (a b : ByteArray) : cmpAt a b a.size b.size = Plain.dnsCmp a.data.toList b.data.toList := by
  unfold cmpAt
  rw [List.take_of_length_le (by simp), List.take_of_length_le (by simp)]

theorem u8_lt (x y : UInt8) : x < y ↔ (x.toNat : Int) < y.toNat := by rw [UInt8.lt_iff_toNat_lt]; omega
theorem u8_eq (x y : UInt8) : x = y ↔ (x.toNat : Int) = y.toNat := by
  rw [← UInt8.toNat_inj]; omega

theorem tab_cell (w : World) (T : Array Value) (h : T = tabCells) (b : UInt8) : ((w.alloc (.cells T 120)).alloc (.cells T 120)).cell? ⟨w.heap.size + 1, b.toNat, none⟩ = some (.int .u8 (Plain.tab b).toNat) := by
  have hg := tabCells_get b
  rw [← h] at hg
  rw [World.cell?_alloc_at _ _ _ _ (by simp)]
  exact hg

set_option maxHeartbeats 800000 in
set_option maxRecDepth 100000 in
theorem compare_core (T : Array Value) (a b : ByteArray) (w : World) (ha : a.size ≤ 1099511627776) (hb : b.size ≤ 1099511627776)
    (HSZ : Hid ((Tryz.prog.info? 120).map (·.size) = some T.size)) (HOLD : Hid (Tryz.zeroCells120.size = T.size)) (HALL : Hid (T.all (·.oneCell') = true))
    (HTC : Hid (∀ x : UInt8, ((w.alloc (.cells T 120)).alloc (.cells T 120)).cell? ⟨w.heap.size + 1, x.toNat, none⟩ = some (.int .u8 (Plain.tab x).toNat)))
    (HC : Hid (Calls Tryz.prog 62 #[] w fun e w' => e = .returned (.agg T) ∧ w' = w.alloc (.cells T 120))) :
    Calls Tryz.prog 39 #[.string a, .string b] w fun e w' => e = .returned (.int .i64 (cmpAt a b a.size b.size)) ∧ w' = (w.alloc (.cells T 120)).alloc (.cells T 120) := by
  go_enter Tryz.func39, Tryz.ntmps39
  go_wp2_with fail
  refine HC.out.mono ?_
  rintro e w' ⟨rfl, rfl⟩
  clear HC
  go_wp2_with (refine wpList_store_row rfl 120 _ _ rfl (w.heap.size + 1) T rfl rfl 120 Tryz.zeroCells120 ?h1 HSZ.out ?h2 HALL.out ?_)
  case h1 => rw [show w.heap.size + 1 = (w.alloc (.cells T 120)).heap.size by simp]; exact heap_alloc_new _ _
  case h2 => exact HOLD.out
  have hrow : ((w.alloc (.cells T 120)).alloc (.cells Tryz.zeroCells120 120)).setRow (w.heap.size + 1) T = (w.alloc (.cells T 120)).alloc (.cells T 120) := by
    rw [show w.heap.size + 1 = (w.alloc (.cells T 120)).heap.size by simp]; exact setRow_alloc _ _ _ _
  rw [hrow]
  clear hrow
  obtain ⟨W, eW⟩ : ∃ W, (w.alloc (.cells T 120)).alloc (.cells T 120) = W := ⟨_, rfl⟩
  rw [eW] at HTC ⊢
  have HW := Lib.hid eW
  clear eW
  go_loop [6, 7] (fun i j => ∃ p q : Nat, p ≤ a.size ∧ q ≤ b.size ∧ i = .int .i64 ((p : Int) - 1) ∧ j = .int .i64 ((q : Int) - 1) ∧ Hid (cmpAt a b a.size b.size = cmpAt a b p q)) (fun i _ => (intOf i + 1).toNat)
  case atStart => exact ⟨a.size, b.size, Nat.le_refl _, Nat.le_refl _, rfl, rfl, rfl⟩
  case round =>
    obtain ⟨p, q, hp, hq, rfl, rfl, HE⟩ := hrel
    cases p with
    | zero =>
      cases q with
      | zero =>
        have HV : Hid (cmpAt a b a.size b.size = 0) := HE.out.trans (cmpAt_zero a b)
        clear HE
        go_wp2
        go_ret
        exact ⟨ret_int (by rw [HV.out]), HW.out.symm⟩
      | succ q =>
        have HV : Hid (cmpAt a b a.size b.size = -1) := HE.out.trans (cmpAt_left a b q (by omega))
        clear HE
        have e1 : ((q + 1 : Nat) : Int) - 1 = q := by omega
        rw [e1]
        clear e1
        go_wp2
        go_ret
        exact ⟨ret_int (by rw [HV.out]), HW.out.symm⟩
    | succ p =>
      have e0 : ((p + 1 : Nat) : Int) - 1 = p := by omega
      rw [e0]
      clear e0
      cases q with
      | zero =>
        have HV : Hid (cmpAt a b a.size b.size = 1) := HE.out.trans (cmpAt_right a b p (by omega))
        clear HE
        go_wp2
        go_ret
        exact ⟨ret_int (by rw [HV.out]), HW.out.symm⟩
      | succ q =>
        have e1 : ((q + 1 : Nat) : Int) - 1 = q := by omega
        rw [e1]
        clear e1
        have hpa : p < a.size := by omega
        have hqb : q < b.size := by omega
        have hs := cmpAt_succ a b p q hpa hqb
        have c1 := HTC.out a[p]
        have c2 := HTC.out b[q]
        have b1 := byte_range a[p]
        have b2 := byte_range b[q]
        by_cases h1 : Plain.tab a[p] = Plain.tab b[q]
        · rw [if_pos h1] at hs
          rw [u8_eq] at h1
          have HS : Hid (cmpAt a b a.size b.size = cmpAt a b p q) := HE.out.trans hs
          clear hs HE
          have h2 : (((Plain.tab a[p]).toNat : Int) == (Plain.tab b[q]).toNat) = true := by rw [beq_iff_eq]; exact h1
          clear h1
          go_wp2
          go_round
          case rel => exact ⟨p, q, by omega, by omega, rfl, rfl, HS⟩
          case measure => simp [intOf]
        · rw [if_neg h1] at hs
          rw [u8_eq] at h1
          have h2 : (((Plain.tab a[p]).toNat : Int) == (Plain.tab b[q]).toNat) = false := by rw [beq_eq_false_iff_ne]; exact h1
          clear h1
          by_cases h3 : Plain.tab a[p] < Plain.tab b[q]
          · rw [if_pos h3] at hs
            rw [u8_lt] at h3
            have HS : Hid (cmpAt a b a.size b.size = -1) := HE.out.trans hs
            clear hs HE
            go_wp2
            go_ret
            exact ⟨ret_int (by rw [HS.out]), HW.out.symm⟩
          · rw [if_neg h3] at hs
            rw [u8_lt] at h3
            have HS : Hid (cmpAt a b a.size b.size = 1) := HE.out.trans hs
            clear hs HE
            go_wp2
            go_ret
            exact ⟨ret_int (by rw [HS.out]), HW.out.symm⟩

theorem tabCells_old : Tryz.zeroCells120.size = tabCells.size := by kernel_rfl
theorem compare_calls (a b : ByteArray) (w : World) (ha : a.size ≤ 1099511627776) (hb : b.size ≤ 1099511627776) :
    Calls Tryz.prog 39 #[.string a, .string b] w fun e w' => e = .returned (.int .i64 (Plain.dnsCmp a.data.toList b.data.toList)) ∧ w' = (w.alloc (.cells tabCells 120)).alloc (.cells tabCells 120) := by
  rw [← cmpAt_all]
  exact compare_core tabCells a b w ha hb tabCells_size tabCells_old tabCells_one (fun x => tab_cell w tabCells rfl x) (table_calls w)
end Go.Proofs.YtbnelehiieglbaaGreatDoor
