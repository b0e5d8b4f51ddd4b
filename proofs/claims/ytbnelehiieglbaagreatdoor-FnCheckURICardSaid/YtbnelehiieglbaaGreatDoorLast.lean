/- FnCheckURI: at every input the law returns true, and each argument reads behind the call as it read before it; conditions: none but the card's own (the package-level variables that the row lists hold what the program's text lays in them). -/
import Derived.Test.YtbnelehiieglbaaGreatDoorCards
import Derived.Test.YtbnelehiieglbaaGreatDoorTie
import Derived.Test.YtbnelehiieglbaaGreatDoorZ
import Derived.WalkKit
import Derived.ProofKit
import Derived.OpenShut
import Derived.ShutString
import Derived.SliceStrings
import Derived.Carry
import Derived.LaidMore
import Derived.Lay
import Derived.SevenTiedAt
import Derived.Stop.Joined
namespace Go.Proofs.YtbnelehiieglbaaGreatDoor
open Go.ChangeShapes Go.WideShapes Go.ChangeAt Go.RowKit Go.Proofs.YtbnelehiieglbaaGreatDoorW.PrintWords
open Go.ChangeMaps (open_string shut_string)

theorem own : ownKnob Tryz.prog.godebug = none := by kernel_rfl
theorem laidOut : laidOutB Tryz.prog = true := by kernel_rfl
theorem cells9 : Tryz.prog.cellsOf 9 = 1 := by kernel_rfl

set_option maxRecDepth 100000 in
/-- A list of strings that came in, as the walk wants it. -/
theorem open_list {H : Type} {enc : TypeId × Value → H} {W : World} {base : Nat} {v : Value} {d : DataW H} {ps : List MemPlace} (hv : Value.okWide Tryz.prog W .any base 22 v)
    (h : DataW.Trod enc Tryz.prog W 0 (fun _ => true) true 22 v d ps) : ∃ A c, ∃ l : List ByteArray, v = .slice A l.length c ∧ l.length ≤ c ∧ Kd.C Kd.string W A l.length l := by
  obtain ⟨a0, len, cap, rfl⟩ := okWide_slice Tryz.underlying22 hv
  obtain ⟨fuel, hf⟩ := h
  rcases open_strings Tryz.underlying22 Tryz.underlying9 cells9 hf with ⟨hcs, _⟩ | ⟨a, len', cap', ss, hcs, _, hl, hm, hz, _, hcell, _⟩
  · simp [Value.cells] at hcs
    obtain ⟨rfl, rfl, rfl⟩ := hcs
    exact ⟨none, 0, [], rfl, Nat.le_refl _, rfl, by simp, fun h => absurd h (by simp)⟩
  · simp [Value.cells] at hcs
    obtain ⟨rfl, rfl, rfl⟩ := hcs
    simp only [if_true] at hz
    have hlen : (ss.take len).length = len := by rw [List.length_take]; omega
    refine ⟨some a, cap, ss.take len, by rw [hlen], by omega, rfl, by unfold maxLen at hm; omega, fun _ => ⟨a, rfl, fun j x hx => ⟨[.string x], rfl, rfl, fun i u hu => ?_⟩⟩⟩
    obtain ⟨hj, hjx⟩ := List.getElem?_eq_some_iff.1 hx
    match i, hu with
    | 0, hu =>
      obtain rfl : Value.string x = u := Option.some.inj hu
      have hjl : j < ss.length := by omega
      have hc := hcell j hjl
      rw [List.getElem_take] at hjx
      rw [List.getD_eq_getElem?_getD, List.getElem?_eq_getElem hjl, Option.getD_some, hjx] at hc
      rw [show j * Kd.string.sz + 0 = j from by show j * 1 + 0 = j; omega]
      exact hc
    | i + 1, hu => simp at hu

set_option maxRecDepth 100000 in
theorem lifted (os : Os) (started : os.Started) (H : Type) (enc : TypeId × Value → H) :
    ReturnsInHanded {} Tryz.checked os 3 .any (fun w args => (Rows.fnCheckURISpec.pre enc Tryz.prog Tryz.f3 Rows.fnCheckURIRow.domain false w args ∧ laidMetH Tryz.prog Rows.fnCheckURIRow.laid w) ∧ sizedMet enc Tryz.prog Tryz.f3 (OpenSpec.ofChange Rows.fnCheckURISpec) false w args)
      (Rows.fnCheckURISpec.post enc Tryz.prog Tryz.f3 false true false false) := by
  refine returnsInHanded_of_change_and (C := Tryz.checked) (X := fun w _ => laidMetH Tryz.prog Rows.fnCheckURIRow.laid w) (fun _ _ _ hh h => h.of_heap hh) own started (by kernel_rfl) Tryz.func3
    (ChangeSpec.witness_shaped (enc := enc) (C := Tryz.checked) (os := os) (X := fun w _ => laidMetH Tryz.prog Rows.fnCheckURIRow.laid w) false (World.laidAll Tryz.prog os Rows.fnCheckURIRow.laid) #[.slice none 0 0, .slice none 0 0, .string ByteArray.empty] 8 (World.laidAll_os _ _ _)
      (World.shaped_of_ZipB (by kernel_rfl) (by kernel_rfl)) (by kernel_rfl) (by kernel_rfl) (by kernel_rfl)
      (by rw [MakeChecks.laidMetH_plain _ _ _ (by kernel_rfl)]; exact laidMet_laidAll _ (by kernel_rfl) (by kernel_rfl))) ?_
  intro W base args ds gs before hval0 hW _ _ _ _
  have hval : ∀ (j : Nat) t v, Tryz.f3.params[j]? = some t → args[j]? = some v → Value.okWide Tryz.prog W .any base t v := hval0
  have hW' := hW
  obtain ⟨p, q, hA0, hV, rfl, hfz, hnd⟩ := hW
  have hA : DataW.TrodAll enc Tryz.prog W 0 (fun _ => true) true Tryz.f3.params.toList args.toList ds p := hA0
  rw [Tryz.params3] at hA hval
  obtain ⟨v0, vs0, d0, ds0, p0, q0, hargs, rfl, rfl, h0, r0⟩ := trodAll_cons hA
  obtain ⟨v1, vs1, d1, ds1, p1, q1, rfl, rfl, rfl, h1, r1⟩ := trodAll_cons r0
  obtain ⟨v2, vs2, d2, ds2, p2, q2, rfl, rfl, rfl, h2, r2⟩ := trodAll_cons r1
  obtain ⟨rfl, rfl, rfl⟩ := trodAll_nil r2
  obtain rfl : args = #[v0, v1, v2] := by cases args; simp_all
  obtain ⟨rfl, rfl⟩ := trodVars_none hV
  have hlt0 : ∀ x ∈ p0, x.block < W.heap.size := fun x hx => hW'.lt x (by simp [hx])
  have hlt1 : ∀ x ∈ p1, x.block < W.heap.size := fun x hx => hW'.lt x (by simp [hx])
  obtain ⟨A1, k1, l1, rfl, hk1, hC1⟩ := open_list (hval 0 22 v0 rfl rfl) h0
  obtain ⟨A2, k2, l2, rfl, hk2, hC2⟩ := open_list (hval 1 22 v1 rfl rfl) h1
  obtain ⟨host, rfl, rfl, rfl, y2⟩ := open_string Tryz.underlying9 (hval 2 9 v2 rfl rfl) h2
  clear hA0 hval0
  refine (law_calls A1 A2 k1 k2 l1 l2 host W hC1 hC2 hk1 hk2).mono fun e W' ⟨he, bel⟩ => ?_
  subst he
  exact ⟨_, rfl, _, _, _, [], _, [], hW', trodAll_mk1 (shut_bool Tryz.underlying4 _), (trodAll_cons_mk (Below.trod laidOut (by kernel_rfl) (of_decide_eq_true (by kernel_rfl)) h0 bel hlt0) (trodAll_cons_mk (Below.trod laidOut (by kernel_rfl) (of_decide_eq_true (by kernel_rfl)) h1 bel hlt1) (trodAll_cons_mk (shut_string Tryz.underlying9 y2) trodAll_mk0))), rfl, bel.frame _, fun h => by cases h⟩

theorem said : Rows.FnCheckURISaid :=
  OpenClaim.holds_of_wide 3 Tryz.f3 rfl rfl rfl rfl rfl rfl rfl ⟨rfl, rfl, rfl, rfl, rfl⟩ rfl rfl rfl rfl rfl (by kernel_rfl) Tryz.func3 (by kernel_rfl)
    (of_decide_eq_true (by kernel_rfl)) (by unfold Func.isWrapper; first | (rw [if_pos (by decide +kernel)]; kernel_rfl) | (rw [if_neg (by decide +kernel)]; exact ⟨rfl, rfl⟩))
    (fun os started H enc _ => lifted os started H enc)

theorem card_said : Rows.FnCheckURICardSaid :=
  Claim7.holds_tied_plain_at .later [] [.data, .called, .called, .zero, .pinned, .pinned] true (true, "65ed509eabf310561f3c38f352fdb673977a19b0effe8099c358ff8e0dd20c73") false
    said (fun _ h => by cases h) (by kernel_rfl) (fun _ h => by cases h) fnCheckURI_row_tie rfl ⟨rfl, rfl⟩ (by kernel_rfl) rfl
    (fun f fn hf hfn => by
      obtain rfl : f = 3 := Option.some.inj ((show Tryz.prog.funcNamed "loop.example/pub-g03129/laws.FnCheckURI" = some 3 by kernel_rfl).symm.trans hf) |>.symm
      obtain rfl : fn = Tryz.f3 := (Option.some.inj (Tryz.func3.symm.trans hfn)).symm
      exact ⟨by kernel_rfl, fun j t ht => by
        rw [Tryz.params3] at ht
        have hm : t ∈ [22, 22, 9] := by simpa using Array.mem_of_getElem? ht
        have hall : ([22, 22, 9].all fun u => !Tryz.prog.wantsStandIn u) = true := by kernel_rfl
        exact (show Tryz.prog.wantsStandIn t = false by simpa using List.all_eq_true.1 hall t hm)⟩)
    (by kernel_rfl)
#print axioms card_said
end Go.Proofs.YtbnelehiieglbaaGreatDoor
