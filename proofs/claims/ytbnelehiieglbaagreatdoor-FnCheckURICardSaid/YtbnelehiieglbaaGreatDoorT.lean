/- Checking a host against sets of constraints: what the calls return. -/
import Derived.Test.YtbnelehiieglbaaGreatDoorR
namespace Go.Proofs.YtbnelehiieglbaaGreatDoor
open Go.RowKit Go.Proofs.YtbnelehiieglbaaGreatDoorW.PrintWords

/-- A set of constraints as a value: nil for none of them. -/
def IsSet (w : World) (v : Value) (l : List Str) : Prop :=
  (l = [] ∧ v = .nilIface) ∨ ∃ Q, v = .iface 80 (.pointer (some ⟨Q, 0, none⟩)) ∧ l ≠ [] ∧ l.length ≤ 50 ∧ IsCons w Q l

theorem IsSet.below {w w' : World} {v : Value} {l : List Str} (h : IsSet w v l) (hb : RowKit.Below w.heap.size w w') : IsSet w' v l := by
  rcases h with h | ⟨Q, h1, h2, h3, h4⟩
  · exact .inl h
  · exact .inr ⟨Q, h1, h2, h3, h4.below hb⟩

/-- Whether a host is refused. -/
def refuses (lp lx : List Str) (s : Str) : Bool := (!lp.isEmpty && !covers lp s) || covers lx s

/-- The answer of a check: nil, or an error whose text is that of a refusal. -/
def Answer (r : Bool) (w w' : World) (e : Ending) : Prop :=
  RowKit.Below w.heap.size w w' ∧ ((r = false ∧ e = .returned .nilIface) ∨ (r = true ∧ ∃ E t, e = .returned (.iface 109 (.pointer (some ⟨E, 0, none⟩))) ∧ w'.cell? ⟨E, 0, none⟩ = some (.string t) ∧ Refusal t))

theorem Answer.good {w w' : World} (hb : RowKit.Below w.heap.size w w') : Answer false w w' (.returned .nilIface) := ⟨hb, .inl ⟨rfl, rfl⟩⟩
theorem Answer.bad {w w' : World} (hb : RowKit.Below w.heap.size w w') {t : ByteArray} (ht : Refusal t) : Answer true w (w'.alloc (.cells #[.string t] 111)) (.returned (.iface 109 (.pointer (some ⟨w'.heap.size, 0, none⟩)))) :=
  ⟨hb.alloc hb.size _, .inr ⟨rfl, _, t, rfl, by go_cell, ht⟩⟩

/-- The struct of the two sets in memory. -/
structure Boxed (w w2 : World) (I1 I2 : Value) : Prop where
  c0 : w2.cell? ⟨w.heap.size, 0, none⟩ = some (.string theURI)
  c1 : w2.cell? ⟨w.heap.size, 1, none⟩ = some I1
  c2 : w2.cell? ⟨w.heap.size, 2, none⟩ = some I2
  bel : RowKit.Below w.heap.size w w2
  lt : w.heap.size < w2.heap.size

theorem boxed (w : World) (I1 I2 : Value) (h sx : ByteArray) : Boxed w ((w.alloc (Obj.cells #[Value.string theURI, I1, I2] 54)).alloc (Obj.cells #[Value.string h, Value.string sx] 79)) I1 I2 := by
  refine ⟨?_, ?_, ?_, ((RowKit.Below.refl _ _).alloc (Nat.le_refl _) _).alloc (by simp) _, by simp; omega⟩
  all_goals go_cell

set_option maxRecDepth 100000 in
set_option maxHeartbeats 1000000 in
theorem check_calls (I1 I2 : Value) (lp lx : List Str) (s : Str) (h : ByteArray) (w : World) (h1 : IsSet w I1 lp) (h2 : IsSet w I2 lx) (hstar : (L s.1).head? ≠ some 42) :
    Calls Tryz.prog 45 #[.agg #[.string theURI, I1, I2], .string s.1, .agg #[.string h, .string s.1]] w fun e w' => Answer (refuses lp lx s) w w' e := by
  have hask := fun Q l w (hc : IsCons w Q l) (hl : l.length ≤ 50) => asks_calls Q l s w hc hl hstar
  have HASK := Aside0.mk hask
  have H1 := Aside0.mk h1
  have H2 := Aside0.mk h2
  have hu : theURI.size = 3 := rfl
  have hn : notPermitted.size = 35 := rfl
  have hx : isExcluded.size = 28 := rfl
  clear hask h1 h2
  generalize hsx : s.1 = sx at *
  go_enter Tryz.func45, Tryz.ntmps45
  rcases H1.out with ⟨rfl, rfl⟩ | ⟨Q1, rfl, n1, m1, c1⟩
  · rcases H2.out with ⟨rfl, rfl⟩ | ⟨Q2, rfl, n2, m2, c2⟩
    · go_wp2_with fail
      go_ret
      exact Answer.good (((RowKit.Below.refl _ _).alloc (Nat.le_refl _) _).alloc (by simp) _)
    · have C2 := Aside0.mk c2
      clear c2 H2 H1
      have hB : Boxed w ((w.alloc (Obj.cells #[Value.string theURI, Value.nilIface, Value.iface 80 (Value.pointer (some ⟨Q2, 0, none⟩))] 54)).alloc (Obj.cells #[Value.string h, Value.string sx] 79)) .nilIface (Value.iface 80 (Value.pointer (some ⟨Q2, 0, none⟩))) := boxed w _ _ h sx
      have HBX := Aside0.mk hB
      clear hB
      go_wp2_with fail
      refine (HASK.out _ _ _ (C2.out.below HBX.out.bel) m2).mono ?_
      rintro e w2 ⟨r, rfl, hb⟩
      have x0 : w2.cell? ⟨w.heap.size, 0, none⟩ = some (.string theURI) := by rw [hb.cell HBX.out.lt]; exact HBX.out.c0
      have HB : Aside0 (RowKit.Below w.heap.size w w2) := ⟨HBX.out.bel.trans (hb.mono (Nat.le_of_lt HBX.out.lt))⟩
      clear hb
      generalize hcov : covers lx s = b at *
      cases b with
      | true =>
        go_wp2_with fail
        refine (new_calls (theURI ++ isExcluded) w2).mono ?_
        rintro e w3 ⟨rfl, rfl⟩
        go_wp2_with fail
        go_ret
        rw [show refuses [] lx s = true by simp [refuses, hcov]]
        exact Answer.bad HB.out (.inr rfl)
      | false =>
        go_wp2_with fail
        go_ret
        rw [show refuses [] lx s = false by simp [refuses, hcov]]
        exact Answer.good HB.out
  · have C1 := Aside0.mk c1
    have hB : Boxed w ((w.alloc (Obj.cells #[Value.string theURI, Value.iface 80 (Value.pointer (some ⟨Q1, 0, none⟩)), I2] 54)).alloc (Obj.cells #[Value.string h, Value.string sx] 79)) (Value.iface 80 (Value.pointer (some ⟨Q1, 0, none⟩))) I2 := boxed w _ _ h sx
    have HBX := Aside0.mk hB
    clear hB c1 H1
    have hne : lp.isEmpty = false := by rw [List.isEmpty_eq_false_iff]; exact n1
    go_wp2_with fail
    refine (HASK.out _ _ _ (C1.out.below HBX.out.bel) m1).mono ?_
    rintro e w4 ⟨r4, rfl, hb4⟩
    have x0 : w4.cell? ⟨w.heap.size, 0, none⟩ = some (.string theURI) := by rw [hb4.cell HBX.out.lt]; exact HBX.out.c0
    have x2 : w4.cell? ⟨w.heap.size, 2, none⟩ = some I2 := by rw [hb4.cell HBX.out.lt]; exact HBX.out.c2
    have HB4 : Aside0 (RowKit.Below w.heap.size w w4) := ⟨HBX.out.bel.trans (hb4.mono (Nat.le_of_lt HBX.out.lt))⟩
    have hlt4 : w.heap.size < w4.heap.size := Nat.lt_of_lt_of_le HBX.out.lt hb4.size
    have HLT4 := Aside0.mk hlt4
    clear hb4 hlt4 HBX
    generalize hcov1 : covers lp s = b1 at *
    cases b1 with
    | false =>
      go_wp2_with fail
      refine (new_calls (theURI ++ notPermitted) w4).mono ?_
      rintro e w3 ⟨rfl, rfl⟩
      go_wp2_with fail
      go_ret
      rw [show refuses lp lx s = true by simp [refuses, hcov1, hne]]
      exact Answer.bad HB4.out (.inl rfl)
    | true =>
      rcases H2.out with ⟨rfl, rfl⟩ | ⟨Q2, rfl, n2, m2, c2⟩
      · go_wp2_with fail
        go_ret
        rw [show refuses lp [] s = false by unfold refuses; rw [hcov1]; simp [covers]]
        exact Answer.good HB4.out
      · have C2 := Aside0.mk c2
        clear c2 H2
        go_wp2_with fail
        refine (HASK.out _ _ _ (C2.out.below HB4.out) m2).mono ?_
        rintro e w2 ⟨r, rfl, hb⟩
        have y0 : w2.cell? ⟨w.heap.size, 0, none⟩ = some (.string theURI) := by rw [hb.cell HLT4.out]; exact x0
        have HB : Aside0 (RowKit.Below w.heap.size w w2) := ⟨HB4.out.trans (hb.mono HB4.out.size)⟩
        clear hb x0 x2
        generalize hcov : covers lx s = b at *
        cases b with
        | true =>
          go_wp2_with fail
          refine (new_calls (theURI ++ isExcluded) w2).mono ?_
          rintro e w3 ⟨rfl, rfl⟩
          go_wp2_with fail
          go_ret
          rw [show refuses lp lx s = true by simp [refuses, hcov]]
          exact Answer.bad HB.out (.inr rfl)
        | false =>
          go_wp2_with fail
          go_ret
          rw [show refuses lp lx s = false by simp [refuses, hcov, hcov1]]
          exact Answer.good HB.out
end Go.Proofs.YtbnelehiieglbaaGreatDoor
