/- A host without a colon, a bracket or the shape of an address: what the calls return. A host is no address: what the calls return. -/
import Derived.Test.YtbnelehiieglbaaGreatDoorO
namespace Go.Proofs.YtbnelehiieglbaaGreatDoor
open Go.RowKit Go.Proofs.YtbnelehiieglbaaGreatDoorW.PrintWords

theorem colon_calls (s : ByteArray) (w : World) (hs : s.size ≤ 2147483647) (hc : ∀ b ∈ L s, b ≠ 58) :
    Calls Tryz.prog 32 #[.string s, .string colon] w fun e w' => e = .returned (.bool false) ∧ RowKit.Below w.heap.size w w' := by
  obtain ⟨k, h⟩ := zzContains_tells s hs hc
  refine (PzzContains.nameconstraints_zzContains.calls k s colon false w h).mono ?_
  rintro e w' ⟨rfl, hd⟩
  exact ⟨rfl, hd.below⟩

theorem domain_calls (s : ByteArray) (w : World) (hs : s.size ≤ 2147483647) (h0 : 0 < s.size) (hd : domOk s) :
    Calls Tryz.prog 43 #[.string s, .bool false] w fun e w' => e = .returned (.bool true) ∧ RowKit.Below w.heap.size w w' := by
  obtain ⟨k, h⟩ := domain_tells s hs h0 hd
  refine (PFnCheckURI.nameconstraints_domainNameValid.calls k s false true w h).mono ?_
  rintro e w' ⟨rfl, hd⟩
  exact ⟨rfl, hd.below⟩

def bracket : ByteArray := ⟨#[91]⟩

set_option maxHeartbeats 400000 in
theorem prefix_calls (s : ByteArray) (w : World) (hs : s.size ≤ 2147483647) (h0 : 0 < s.size) (h : s[0] ≠ 91) :
    Calls Tryz.prog 36 #[.string s, .string bracket] w fun e w' => e = .returned (.bool false) ∧ w = w' := by
  have hb : bracket.size = 1 := rfl
  have he : ((s.extract 0 1).toList == bracket.toList) = false := by
    rw [toList_eq, toList_eq, L_extract, beq_eq_false_iff_ne]
    intro hx
    have := congrArg (fun l => l[0]?) hx
    simp only [List.drop_zero] at this
    rw [List.getElem?_take_of_lt (by omega), L_get s 0 h0] at this
    exact h (Option.some.inj this)
  generalize bracket = br at *
  go_enter Tryz.func36, Tryz.ntmps36
  go_wp2
  go_ret
  exact ⟨rfl, rfl⟩

/-- The byte at n is neither a digit nor a dot. -/
def BadAt (s : ByteArray) (n : Nat) : Prop := ∃ h : n < s.size, s[n].toNat ≠ 46 ∧ (s[n].toNat < 48 ∨ 57 < s[n].toNat)

def Four (w : World) (P : Nat) : Prop := ∀ j, j < 4 → (∃ x, w.cell? ⟨P, j, none⟩ = some (.int .u8 x)) ∧ w.frozen? ⟨P, j, none⟩ = false

theorem Four.set {w : World} {P q : Nat} (h : Four w P) (z : Int) : Four (w.setCell ⟨P, q, none⟩ (.int .u8 z)) P := by
  intro j hj
  obtain ⟨⟨x, hx⟩, hf⟩ := h j hj
  refine ⟨?_, by rw [World.frozen?_setCell]; exact hf⟩
  by_cases e : q = j
  · subst e
    exact ⟨z, World.cell?_setCell_same _ _ _ hx⟩
  · exact ⟨x, by rw [World.cell?_setCell_other _ _ _ _ (fun h => by injection h with _ h; exact e h)]; exact hx⟩

set_option maxRecDepth 100000 in
set_option maxHeartbeats 1000000 in
theorem fields_calls (s : ByteArray) (P B : Nat) (w : World) (hs : s.size ≤ 2147483647) (hB : B ≤ P)
    (hc : Four w P)
    (n : Nat) (hbad : BadAt s n) :
    Calls Tryz.prog 72 #[.string s, .int .i64 0, .int .i64 s.size, .slice (some ⟨P, 0, none⟩) 4 4] w fun e w' => (∃ v, e = .returned (.iface 118 v)) ∧ RowKit.Below B w w' := by
  have HC := Aside0.mk hc
  have HBAD := Aside0.mk hbad
  clear hc hbad
  go_enter Tryz.func72, Tryz.ntmps72
  go_wp2
  go_loopw [9, 11, 10, 13] (fun v d p i wr => ∃ (z : Int) (dg q k : Nat), v = .int .i64 z ∧ d = .int .i64 dg ∧ p = .int .i64 q ∧ i = .int .i64 k ∧ 0 ≤ z ∧ z ≤ 255 ∧ dg ≤ k ∧ q ≤ 3 ∧ k ≤ n ∧ Aside0 (Four wr P) ∧ Aside0 (RowKit.Below B w wr)) (fun _ _ _ i _ => n - (intOf i).toNat)
  case atStart => exact ⟨0, 0, 0, 0, rfl, rfl, rfl, rfl, by omega, by omega, by omega, by omega, by omega, HC, ⟨RowKit.Below.refl _ _⟩⟩
  case round =>
    obtain ⟨z, dg, q, k, rfl, rfl, rfl, rfl, z0, z1, hdk, hq, hk, HF, HB⟩ := hrel
    have hks : k < s.size := by obtain ⟨h, _⟩ := HBAD.out; omega
    have HK := Aside0.mk hk
    obtain ⟨⟨x, hx⟩, hfx⟩ := HF.out q (by omega)
    clear hk HC
    go_wp2_with fail
    all_goals try (go_ret; exact ⟨⟨_, rfl⟩, HB.out⟩)
    rotate_left 2
    · rename_i h6 h5 h4 h3 h2 h1 h0
      have h6' : (s[k].toNat : Int) = 46 := eq_of_beq h6
      have h0' : ¬ (q : Int) = 3 := by intro e; rw [e] at h0; exact absurd h0 (by decide)
      have hkk := HK.out
      have hkn : k ≠ n := by
        intro e
        subst e
        obtain ⟨_, hb1, hb2⟩ := HBAD.out
        omega
      exact ⟨⟨0, 0, q + 1, k + 1, rfl, rfl, by go_num, by go_num, by omega, by omega, by omega, by omega, by omega, ⟨HF.out.set _⟩, ⟨HB.out.setCell hB _⟩⟩, by simp [intOf]; omega⟩
    all_goals have hkk := HK.out
    all_goals have hkn : k ≠ n := by
                intro e
                subst e
                obtain ⟨_, hb1, hb2⟩ := HBAD.out
                omega
    · exact ⟨⟨_, 2, q, k + 1, rfl, rfl, rfl, by go_num, by omega, by omega, by omega, by omega, by omega, HF, HB⟩, by simp [intOf]; omega⟩
    · exact ⟨⟨_, dg + 1, q, k + 1, rfl, by go_num, rfl, by go_num, by omega, by omega, by omega, by omega, by omega, HF, HB⟩, by simp [intOf]; omega⟩
end Go.Proofs.YtbnelehiieglbaaGreatDoor
namespace Go.Proofs.YtbnelehiieglbaaGreatDoor
open Go.RowKit Go.Proofs.YtbnelehiieglbaaGreatDoorW.PrintWords

/-- No address: an error, and memory that was there is as it was. -/
def NoAddr (w w' : World) (e : Ending) : Prop := (∃ v, e = .returned (.tuple #[.agg #[.int .u64 0, .int .u64 0, .pointer none], .iface 118 v])) ∧ RowKit.Below w.heap.size w w'

/-- Memory with an address (of three cells) and four bytes more. -/
structure AtIp (w w2 : World) : Prop where
  four : Four w2 (w.heap.size + 1)
  c0 : w2.cell? ⟨w.heap.size, 0, none⟩ = some (.int .u64 0)
  c1 : w2.cell? ⟨w.heap.size, 1, none⟩ = some (.int .u64 0)
  c2 : w2.cell? ⟨w.heap.size, 2, none⟩ = some (.pointer none)
  f0 : w2.frozen? ⟨w.heap.size, 0, none⟩ = false
  f1 : w2.frozen? ⟨w.heap.size, 1, none⟩ = false
  f2 : w2.frozen? ⟨w.heap.size, 2, none⟩ = false
  bel : RowKit.Below w.heap.size w w2

theorem atIp (w : World) : AtIp w ((w.alloc (Obj.cells #[Value.int IntKind.u64 0, Value.int IntKind.u64 0, Value.pointer none] 75)).alloc (Obj.cells #[Value.int IntKind.u8 0, Value.int IntKind.u8 0, Value.int IntKind.u8 0, Value.int IntKind.u8 0] 134)) := by
  refine ⟨fun j hj => ?_, ?_, ?_, ?_, ?_, ?_, ?_, ((RowKit.Below.refl _ _).alloc (Nat.le_refl _) _).alloc (by simp) _⟩
  · obtain rfl | rfl | rfl | rfl : j = 0 ∨ j = 1 ∨ j = 2 ∨ j = 3 := by omega
    all_goals exact ⟨⟨0, by go_cell⟩, by go_cell⟩
  all_goals go_cell

structure Set3 (w w4 : World) (P : Nat) : Prop where
  d0 : w4.cell? ⟨P, 0, none⟩ = some (.int .u64 0)
  d1 : w4.cell? ⟨P, 1, none⟩ = some (.int .u64 0)
  d2 : w4.cell? ⟨P, 2, none⟩ = some (.pointer none)
  bel : RowKit.Below P w w4

theorem Set3.mk' {w : World} {w3 : World} {P : Nat} (c0 : w3.cell? ⟨P, 0, none⟩ = some (.int .u64 0)) (c1 : w3.cell? ⟨P, 1, none⟩ = some (.int .u64 0)) (c2 : w3.cell? ⟨P, 2, none⟩ = some (.pointer none)) (hb : RowKit.Below P w w3) :
    Set3 w (((w3.setCell ⟨P, 0, none⟩ (.int .u64 0)).setCell ⟨P, 1, none⟩ (.int .u64 0)).setCell ⟨P, 2, none⟩ (.pointer none)) P := by
  have e0 := World.cell?_setCell_same w3 ⟨P, 0, none⟩ (.int .u64 0) c0
  have e1 : (w3.setCell ⟨P, 0, none⟩ (.int .u64 0)).cell? ⟨P, 1, none⟩ = some (.int .u64 0) := by rw [World.cell?_setCell_other _ _ _ _ (by intro h; injection h with _ h; cases h)]; exact c1
  have e2 : (w3.setCell ⟨P, 0, none⟩ (.int .u64 0)).cell? ⟨P, 2, none⟩ = some (.pointer none) := by rw [World.cell?_setCell_other _ _ _ _ (by intro h; injection h with _ h; cases h)]; exact c2
  have b1 := hb.setCell (p := ⟨P, 0, none⟩) (Nat.le_refl _) (.int .u64 0)
  generalize w3.setCell ⟨P, 0, none⟩ (.int .u64 0) = w5 at *
  have f1 := World.cell?_setCell_same w5 ⟨P, 1, none⟩ (.int .u64 0) e1
  have f0 : (w5.setCell ⟨P, 1, none⟩ (.int .u64 0)).cell? ⟨P, 0, none⟩ = some (.int .u64 0) := by rw [World.cell?_setCell_other _ _ _ _ (by intro h; injection h with _ h; cases h)]; exact e0
  have f2 : (w5.setCell ⟨P, 1, none⟩ (.int .u64 0)).cell? ⟨P, 2, none⟩ = some (.pointer none) := by rw [World.cell?_setCell_other _ _ _ _ (by intro h; injection h with _ h; cases h)]; exact e2
  have b2 := b1.setCell (p := ⟨P, 1, none⟩) (Nat.le_refl _) (.int .u64 0)
  generalize w5.setCell ⟨P, 1, none⟩ (.int .u64 0) = w6 at *
  refine ⟨?_, ?_, World.cell?_setCell_same w6 _ _ f2, b2.setCell (p := ⟨P, 2, none⟩) (Nat.le_refl _) _⟩
  · rw [World.cell?_setCell_other _ _ _ _ (by intro h; injection h with _ h; cases h)]; exact f0
  · rw [World.cell?_setCell_other _ _ _ _ (by intro h; injection h with _ h; cases h)]; exact f1

structure AtIp1 (w w2 : World) : Prop where
  c0 : w2.cell? ⟨w.heap.size, 0, none⟩ = some (.int .u64 0)
  c1 : w2.cell? ⟨w.heap.size, 1, none⟩ = some (.int .u64 0)
  c2 : w2.cell? ⟨w.heap.size, 2, none⟩ = some (.pointer none)
  f0 : w2.frozen? ⟨w.heap.size, 0, none⟩ = false
  f1 : w2.frozen? ⟨w.heap.size, 1, none⟩ = false
  f2 : w2.frozen? ⟨w.heap.size, 2, none⟩ = false
  bel : RowKit.Below w.heap.size w w2
  sz : w2.heap.size = w.heap.size + 1

theorem atIp1 (w : World) : AtIp1 w (w.alloc (Obj.cells #[Value.int IntKind.u64 0, Value.int IntKind.u64 0, Value.pointer none] 75)) := by
  refine ⟨?_, ?_, ?_, ?_, ?_, ?_, (RowKit.Below.refl _ _).alloc (Nat.le_refl _) _, by simp⟩
  all_goals go_cell

/-- Neither a colon nor a percent sign. -/
def NoColon (s : ByteArray) : Prop := ∀ (i : Nat) (h : i < s.size), s[i].toNat ≠ 58 ∧ s[i].toNat ≠ 37

set_option maxHeartbeats 1000000 in
theorem ip4_calls (s : ByteArray) (w : World) (hs : s.size ≤ 2147483647) (n : Nat) (hbad : BadAt s n) :
    Calls Tryz.prog 58 #[.string s] w fun e w' => NoAddr w w' e := by
  have hf := fun (P B : Nat) (w : World) (hB : B ≤ P) (hc : Four w P) => fields_calls s P B w hs hB hc n hbad
  have HF := Aside0.mk hf
  clear hf hbad
  go_enter Tryz.func58, Tryz.ntmps58
  go_wp2_with fail
  generalize hW2 : ((w.alloc (Obj.cells #[Value.int IntKind.u64 0, Value.int IntKind.u64 0, Value.pointer none] 75)).alloc (Obj.cells #[Value.int IntKind.u8 0, Value.int IntKind.u8 0, Value.int IntKind.u8 0, Value.int IntKind.u8 0] 134)) = w2
  have hm : AtIp w w2 := by
    subst hW2
    exact atIp w
  clear hW2
  refine (HF.out (w.heap.size + 1) (w.heap.size + 1) w2 (Nat.le_refl _) hm.four).mono ?_
  rintro e w3 ⟨⟨v, rfl⟩, hb⟩
  have c0 : w3.cell? ⟨w.heap.size, 0, none⟩ = some (.int .u64 0) := by rw [hb.cell (by show w.heap.size < w.heap.size + 1; omega)]; exact hm.c0
  have c1 : w3.cell? ⟨w.heap.size, 1, none⟩ = some (.int .u64 0) := by rw [hb.cell (by show w.heap.size < w.heap.size + 1; omega)]; exact hm.c1
  have c2 : w3.cell? ⟨w.heap.size, 2, none⟩ = some (.pointer none) := by rw [hb.cell (by show w.heap.size < w.heap.size + 1; omega)]; exact hm.c2
  have f0 : w3.frozen? ⟨w.heap.size, 0, none⟩ = false := by rw [hb.frozen (by show w.heap.size < w.heap.size + 1; omega)]; exact hm.f0
  have f1 : w3.frozen? ⟨w.heap.size, 1, none⟩ = false := by rw [hb.frozen (by show w.heap.size < w.heap.size + 1; omega)]; exact hm.f1
  have f2 : w3.frozen? ⟨w.heap.size, 2, none⟩ = false := by rw [hb.frozen (by show w.heap.size < w.heap.size + 1; omega)]; exact hm.f2
  have HB : Aside0 (RowKit.Below w.heap.size w w3) := ⟨hm.bel.trans (hb.mono (by omega))⟩
  clear hb hm HF
  generalize hP : w.heap.size = P at *
  go_wp2_with fail
  have hS := Set3.mk' c0 c1 c2 HB.out
  generalize ((w3.setCell ⟨P, 0, none⟩ (.int .u64 0)).setCell ⟨P, 1, none⟩ (.int .u64 0)).setCell ⟨P, 2, none⟩ (.pointer none) = w4 at *
  refine bodyPost_ret (v := .tuple #[.agg #[.int .u64 0, .int .u64 0, .pointer none], .iface 118 v]) ?_ rfl ⟨⟨_, rfl⟩, by rw [hP]; exact hS.bel⟩
  rw [results_cell_tmp rfl]
  have d0 := hS.d0
  have d1 := hS.d1
  have d2 := hS.d2
  simp [asAddr, Result.andThen, go_sem, d0, d1, d2]

set_option maxRecDepth 100000 in
set_option maxHeartbeats 1000000 in
theorem addr_calls (s : ByteArray) (w : World) (hs : s.size ≤ 2147483647) (n : Nat) (hbad : BadAt s n) (hno : NoColon s) :
    Calls Tryz.prog 35 #[.string s] w fun e w' => NoAddr w w' e := by
  have hf := fun (w : World) => ip4_calls s w hs n hbad
  have HF := Aside0.mk hf
  have HNO := Aside0.mk hno
  clear hf hbad hno
  go_enter Tryz.func35, Tryz.ntmps35
  go_wp2_with fail
  go_loop [4] (fun i => ∃ k : Nat, k ≤ s.size ∧ i = .int .i64 k) (fun i => s.size - (intOf i).toNat)
  case atStart => exact ⟨0, Nat.zero_le _, rfl⟩
  case round =>
    obtain ⟨k, hk, rfl⟩ := hrel
    by_cases hks : k < s.size
    · go_wp2_with fail
      · refine (HF.out _).mono ?_
        rintro e w3 ⟨⟨v, rfl⟩, hb⟩
        have hm := atIp1 w
        generalize w.alloc (Obj.cells #[Value.int IntKind.u64 0, Value.int IntKind.u64 0, Value.pointer none] 75) = w2 at *
        have hlt : w.heap.size < w2.heap.size := by rw [hm.sz]; omega
        have c0 : w3.cell? ⟨w.heap.size, 0, none⟩ = some (.int .u64 0) := by rw [hb.cell hlt]; exact hm.c0
        have c1 : w3.cell? ⟨w.heap.size, 1, none⟩ = some (.int .u64 0) := by rw [hb.cell hlt]; exact hm.c1
        have c2 : w3.cell? ⟨w.heap.size, 2, none⟩ = some (.pointer none) := by rw [hb.cell hlt]; exact hm.c2
        have f0 : w3.frozen? ⟨w.heap.size, 0, none⟩ = false := by rw [hb.frozen hlt]; exact hm.f0
        have f1 : w3.frozen? ⟨w.heap.size, 1, none⟩ = false := by rw [hb.frozen hlt]; exact hm.f1
        have f2 : w3.frozen? ⟨w.heap.size, 2, none⟩ = false := by rw [hb.frozen hlt]; exact hm.f2
        have HB : Aside0 (RowKit.Below w.heap.size w w3) := ⟨hm.bel.trans (hb.mono (by omega))⟩
        clear hb hm HF
        generalize hP : w.heap.size = P at *
        go_wp2_with fail
        have hS := Set3.mk' c0 c1 c2 HB.out
        generalize ((w3.setCell ⟨P, 0, none⟩ (.int .u64 0)).setCell ⟨P, 1, none⟩ (.int .u64 0)).setCell ⟨P, 2, none⟩ (.pointer none) = w4 at *
        refine bodyPost_ret (v := .tuple #[.agg #[.int .u64 0, .int .u64 0, .pointer none], .iface 118 v]) ?_ rfl ⟨⟨_, rfl⟩, by rw [hP]; exact hS.bel⟩
        rw [results_cell_tmp rfl]
        have d0 := hS.d0
        have d1 := hS.d1
        have d2 := hS.d2
        simp [asAddr, Result.andThen, go_sem, d0, d1, d2]
      · have h58 : ((s[k].toNat : Int) == 58) = true := by assumption
        exact absurd (by have := eq_of_beq h58; omega) (HNO.out k hks).1
      · refine bodyPost_ret (v := .tuple #[.agg #[.int .u64 0, .int .u64 0, .pointer none], .iface 118 ?v]) ?_ rfl ⟨⟨?v, rfl⟩, (RowKit.Below.refl _ _).alloc (Nat.le_refl _) _⟩
        rotate_left 1
        rw [results_cell_tmp rfl]
        simp [asAddr, Result.andThen, go_sem]
        rfl
      · exact ⟨⟨k + 1, by omega, by go_num⟩, by simp [intOf]; omega⟩
    · go_wp2_with fail
      refine bodyPost_ret (v := .tuple #[.agg #[.int .u64 0, .int .u64 0, .pointer none], .iface 118 (.agg #[.string s, .string ⟨#[117, 110, 97, 98, 108, 101, 32, 116, 111, 32, 112, 97, 114, 115, 101, 32, 73, 80]⟩, .string ⟨#[]⟩])]) ?_ rfl ⟨⟨_, rfl⟩, (RowKit.Below.refl _ _).alloc (Nat.le_refl _) _⟩
      rw [results_cell_tmp rfl]
      simp [asAddr, Result.andThen, go_sem]
end Go.Proofs.YtbnelehiieglbaaGreatDoor
