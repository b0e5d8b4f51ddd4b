/- Checking a host against lists of constraints: what the calls return. -/
import Derived.Test.YtbnelehiieglbaaGreatDoorU
import Derived.Test.YtbnelehiieglbaaGreatDoorG
namespace Go.Proofs.YtbnelehiieglbaaGreatDoor
open Go.RowKit Go.Proofs.YtbnelehiieglbaaGreatDoorW.PrintWords

/-- A list of names in memory. -/
def IsList (w : World) (v : Value) (l : List Str) : Prop :=
  (l = [] ∧ ∃ A c, v = .slice A 0 c) ∨
  ∃ g cap, v = .slice (some ⟨g, 0, none⟩) l.length cap ∧ 1 ≤ l.length ∧ l.length ≤ cap ∧ cap ≤ 9223372036854775807 ∧ ∀ j (x : Str), l[j]? = some x → w.cell? ⟨g, j, none⟩ = some (.string x.1)

theorem IsList.below {w w' : World} {v : Value} {l : List Str} (h : IsList w v l) (hb : RowKit.Below w.heap.size w w') : IsList w' v l := by
  rcases h with h | ⟨g, cap, h1, h2, h3, h4, h5⟩
  · exact .inl h
  · exact .inr ⟨g, cap, h1, h2, h3, h4, fun j x hx => cell_kept hb (h5 j x hx)⟩

theorem set_calls (v : Value) (perm : Bool) (l : List Str) (w : World) (hl : l.length ≤ 50) (h : IsList w v l) :
    Calls Tryz.prog 28 #[v, .bool perm] w fun e w' => ∃ I, e = .returned I ∧ IsSet w' I l ∧ RowKit.Below w.heap.size w w' := by
  rcases h with ⟨rfl, A, c, rfl⟩ | ⟨g, cap, rfl, h2, h3, h4, h5⟩
  · refine (cons_nil A c perm w).mono ?_
    rintro e w' ⟨rfl, rfl⟩
    exact ⟨_, rfl, .inl ⟨rfl, rfl⟩, RowKit.Below.refl _ _⟩
  · refine (cons_calls g cap perm l w h2 hl h3 h4 h5).mono ?_
    rintro e w' ⟨Q, rfl, hc, hb⟩
    exact ⟨_, rfl, .inr ⟨Q, rfl, fun h0 => by subst h0; simp at h2, hl, hc⟩, hb⟩

theorem list_of_R {w : World} {base : Nat} {ok : Nat → Prop} {v : Value} {l : List Str} (h : Kd.R Kd.string 9 w base ok v (l.map (·.1))) : IsList w v l := by
  by_cases h0 : 0 < l.length
  · obtain ⟨inner, ho⟩ := Kd.R_own h
    obtain ⟨g, cap, rfl, _, _, _⟩ := Kd.R_form h (by simpa using h0)
    obtain ⟨_, hcap, hC⟩ := Kd.R_reads' h
    have hcm : cap ≤ maxLen := by
      rcases ho.2 with ⟨h', _⟩ | ⟨g', cap', cur, h', _, _, q1, q2, _⟩
      · simp at h'
      · simp only [Value.slice.injEq, Option.some.injEq, Addr.mk.injEq, and_true, true_and] at h'
        omega
    refine .inr ⟨g, cap, by rw [List.length_map], h0, by simpa using hcap, by unfold maxLen at hcm; omega, fun j x hx => ?_⟩
    obtain ⟨hj, hjx⟩ := List.getElem?_eq_some_iff.1 hx
    obtain ⟨ad, had, hc⟩ := strs_at hC j (by simpa using hj)
    obtain rfl : ⟨g, 0, none⟩ = ad := Option.some.inj had
    rw [List.getElem_map, hjx] at hc
    rw [add_plain] at hc
    exact hc
  · have hn : l = [] := by cases l with | nil => rfl | cons a l => simp at h0
    subst hn
    obtain ⟨A, c, rfl⟩ := Kd.R_slice h
    exact .inl ⟨rfl, A, c, rfl⟩

theorem chain_uri (w : World) (I1 I2 : Value) : (w.alloc (Obj.cells #[Value.string { data := #[] }, Value.nilIface, Value.nilIface, Value.string { data := #[] }, Value.nilIface, Value.nilIface, Value.string { data := #[85, 82, 73] }, I1, I2, Value.string { data := #[] }, Value.nilIface, Value.nilIface, Value.int IntKind.i64 0, Value.pointer none] 62)).cell? ⟨w.heap.size, 6, none⟩ = some (.string theURI) := by
  unfold theURI
  go_cell

set_option maxRecDepth 100000 in
set_option maxHeartbeats 1000000 in
theorem zz_calls (v1 v2 : Value) (lp lx : List Str) (host : ByteArray) (s : Str) (w : World) (hs : s.1 = lowS host) (hh : Host host) (h1 : IsList w v1 lp) (h2 : IsList w v2 lx) (hl1 : lp.length ≤ 50) (hl2 : lx.length ≤ 50)
    (hstar : (L s.1).head? ≠ some 42) (hd : domOk s.1) :
    Calls Tryz.prog 23 #[v1, v2, .string host] w fun e w' => Answer (refuses lp lx s) w w' e := by
  have hpar := fun H w (hc : w.cell? ⟨H, 0, none⟩ = some (.string host)) => parse_calls host H w hh hc
  have hset1 := fun w (h : IsList w v1 lp) => set_calls v1 true lp w hl1 h
  have hset2 := fun w (h : IsList w v2 lx) => set_calls v2 false lx w hl2 h
  have hcha := fun I1 I2 C G c w (h1 : IsSet w I1 lp) (h2 : IsSet w I2 lx) => chain_calls I1 I2 lp lx s host C G c w h1 h2 hstar hd
  have HPAR := Aside0.mk hpar
  have HSET1 := Aside0.mk hset1
  have HSET2 := Aside0.mk hset2
  have HCHA := Aside0.mk hcha
  have H1 := Aside0.mk h1
  have H2 := Aside0.mk h2
  clear hpar hset1 hset2 hcha h1 h2 hh hstar hd
  generalize refuses lp lx s = rf at *
  go_enter Tryz.func23, Tryz.ntmps23
  go_wp2_with fail
  have hh0 : (w.alloc (Obj.cells #[Value.string host] 9)).cell? ⟨w.heap.size, 0, none⟩ = some (.string host) := by go_cell
  have hb1 : RowKit.Below w.heap.size w (w.alloc (Obj.cells #[Value.string host] 9)) := (RowKit.Below.refl _ _).alloc (Nat.le_refl _) _
  refine (HPAR.out _ _ hh0).mono ?_
  rintro e w2 ⟨G, c, rfl, g0, g1, hb2⟩
  have hb12 : RowKit.Below w.heap.size w w2 := hb1.trans (hb2.mono hb1.size)
  have HB2 := Aside0.mk hb12
  have G0 := Aside0.mk g0
  have G1 := Aside0.mk g1
  clear hh0 hb1 hb2 hb12 g0 g1 HPAR
  go_wp2_with fail
  refine (HSET1.out w2 (H1.out.below HB2.out)).mono ?_
  rintro e w3 ⟨I1, rfl, hi1, hb3⟩
  have J1 := Aside0.mk hi1
  have HB3 := Aside0.mk hb3
  clear hi1 hb3 HSET1 H1
  go_wp2_with fail
  have hb23 : RowKit.Below w.heap.size w w3 := HB2.out.trans (HB3.out.mono HB2.out.size)
  refine (HSET2.out w3 (H2.out.below hb23)).mono ?_
  rintro e w4 ⟨I2, rfl, hi2, hb4⟩
  have J2 := Aside0.mk hi2
  have HB4 := Aside0.mk hb4
  have HB24 := Aside0.mk hb23
  clear hi2 hb4 HSET2 H2 hb23
  have hform1 : I1 = .nilIface ∨ ∃ Q, I1 = .iface 80 (.pointer (some ⟨Q, 0, none⟩)) := by
    rcases J1.out with ⟨_, h⟩ | ⟨Q, h, _⟩
    · exact .inl h
    · exact .inr ⟨Q, h⟩
  have hform2 : I2 = .nilIface ∨ ∃ Q, I2 = .iface 80 (.pointer (some ⟨Q, 0, none⟩)) := by
    rcases J2.out with ⟨_, h⟩ | ⟨Q, h, _⟩
    · exact .inl h
    · exact .inr ⟨Q, h⟩
  rcases hform1 with rfl | ⟨Q1, rfl⟩ <;> rcases hform2 with rfl | ⟨Q2, rfl⟩ <;> go_wp2_with fail
  all_goals
    refine (HCHA.out _ _ w4.heap.size G c _ ((J1.out.below HB4.out).below ((RowKit.Below.refl _ _).alloc (Nat.le_refl _) _)) (J2.out.below ((RowKit.Below.refl _ _).alloc (Nat.le_refl _) _)) ?c0 ?c1 ?c2 ?g0 ?g1).mono ?_
    case c0 => exact chain_uri w4 _ _
    case c1 => go_cell
    case c2 => go_cell
    case g0 => exact cell_kept ((RowKit.Below.refl _ _).alloc (Nat.le_refl _) _) (cell_kept HB4.out (cell_kept HB3.out G0.out))
    case g1 => exact cell_kept ((RowKit.Below.refl _ _).alloc (Nat.le_refl _) _) (cell_kept HB4.out (cell_kept HB3.out (by rw [hs]; exact G1.out)))
    have hb45 : RowKit.Below w.heap.size w w4 := HB24.out.trans (HB4.out.mono HB24.out.size)
    have HB45 := Aside0.mk hb45
    clear hb45 J1 J2 HB4 HB3 HB2 HB24 G0 G1 HCHA
    rintro e w6 ⟨hb6, ha⟩
    have HB6 := Aside0.mk (RowKit.Below.trans (HB45.out.alloc HB45.out.size _) (hb6.mono (by have := HB45.out.size; simp; omega)))
    clear hb6 HB45
    rcases ha with ⟨rfl, rfl⟩ | ⟨rfl, E, t, rfl, ht, hr⟩
    · go_wp2_with fail
      go_ret
      exact Answer.good HB6.out
    · have HT := Aside0.mk ht
      clear ht
      go_wp2_with fail
      go_ret
      exact ⟨HB6.out, .inr ⟨rfl, E, t, rfl, HT.out, hr⟩⟩
end Go.Proofs.YtbnelehiieglbaaGreatDoor
