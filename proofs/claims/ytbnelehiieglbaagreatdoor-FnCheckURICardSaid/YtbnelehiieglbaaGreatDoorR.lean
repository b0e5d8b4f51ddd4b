/- Parsing the hosts of URIs, one of them: what the call returns. -/
import Derived.Test.YtbnelehiieglbaaGreatDoorQ
namespace Go.Proofs.YtbnelehiieglbaaGreatDoor
open Go.RowKit Go.Proofs.YtbnelehiieglbaaGreatDoorW.PrintWords

/-- A host in memory, with it in lower case. -/
def OneHost (w w' : World) (s : ByteArray) (e : Ending) : Prop :=
  ∃ G c, e = .returned (.tuple #[.slice (some ⟨G, 0, none⟩) 1 c, .nilIface]) ∧ w'.cell? ⟨G, 0, none⟩ = some (.string s) ∧ w'.cell? ⟨G, 1, none⟩ = some (.string (lowS s)) ∧ RowKit.Below w.heap.size w w'

/-- A host that is parsed. -/
structure Host (s : ByteArray) : Prop where
  small : s.size ≤ 2147483647
  pos : 0 < s.size
  ascii : ∀ b ∈ L s, b < 128
  colon : ∀ b ∈ L (lowS s), b ≠ 58
  none : NoColon (lowS s)
  bad : ∃ n, BadAt (lowS s) n
  first : ∃ h : 0 < (lowS s).size, (lowS s)[0] ≠ 91

theorem make_hosts (w : World) : (Instr.makeSlice 47 (.int .i64 0) (.int .i64 1)).run Tryz.prog w = .ok (.slice (some ⟨w.heap.size, 0, none⟩) 0 1) (w.alloc (.cells #[.string ByteArray.empty, .string ByteArray.empty] 79)) := by kernel_rfl

theorem info79 : ∃ i0, Tryz.prog.info? 79 = some i0 ∧ i0.zero = some (.agg #[.string ByteArray.empty, .string ByteArray.empty]) ∧ i0.size = 2 ∧ i0.bytes = 32 := by
  have h : (Tryz.prog.info? 79).map (fun i => (i.zero, i.size, i.bytes)) = some (some (.agg #[.string ByteArray.empty, .string ByteArray.empty]), 2, 32) := by kernel_rfl
  obtain ⟨i, hi, he⟩ := Option.map_eq_some_iff.1 h
  exact ⟨i, hi, congrArg (·.1) he, congrArg (·.2.1) he, congrArg (·.2.2) he⟩

theorem own_made (w : World) : (w.alloc (Obj.cells #[Value.string ByteArray.empty, Value.string ByteArray.empty] 79)).ownsRow w.heap.size 79 2 (.slice (some ⟨w.heap.size, 0, none⟩) 0 1) 0 [] :=
  World.ownsRow_made w #[Value.string ByteArray.empty, Value.string ByteArray.empty] 1 (Nat.le_refl _) (by unfold maxLen; omega) rfl

theorem own_below {w w' : World} {S : Nat} (h : w.ownsRow S 79 2 (.slice (some ⟨S, 0, none⟩) 0 1) 0 []) (hb : RowKit.Below w.heap.size w w') (hS : S < w.heap.size) : w'.ownsRow S 79 2 (.slice (some ⟨S, 0, none⟩) 0 1) 0 [] := by
  obtain ⟨h1, h2⟩ := h
  refine ⟨h1, ?_⟩
  rcases h2 with ⟨h0, _⟩ | ⟨g, cap, cur, hv, hbg, hg, hnc, hcm, hcs, htake⟩
  · cases h0
  · have hgS : g = S := by cases hv; rfl
    subst hgS
    exact .inr ⟨g, cap, cur, hv, hbg, (hb.block g hS).trans hg, hnc, hcm, hcs, htake⟩

theorem two_new (w : World) (a b : Value) (t : TypeId) : ∀ j u, [a, b][j]? = some u → (w.alloc (.cells #[a, b] t)).cell? ((⟨w.heap.size, 0, none⟩ : Addr).add j) = some u := by
  intro j u hj
  match j, hj with
  | 0, hj => simp at hj; subst hj; simp [Addr.add]
  | 1, hj => simp at hj; subst hj; simp [Addr.add]
  | j + 2, hj => simp at hj

set_option maxRecDepth 100000 in
set_option maxHeartbeats 1000000 in
theorem parse_calls (s : ByteArray) (H : Nat) (w : World) (hh : Host s) (hc : w.cell? ⟨H, 0, none⟩ = some (.string s)) :
    Calls Tryz.prog 27 #[.slice (some ⟨H, 0, none⟩) 1 1] w fun e w' => OneHost w w' s e := by
  have hlow := fun w => tolower_calls s w hh.small hh.ascii
  have hsz : (lowS s).size = s.size := lowS_size s
  have hpos := hh.pos
  have hsmall := hh.small
  have hcol := fun w => colon_calls (lowS s) w (by omega) hh.colon
  obtain ⟨n, hbad⟩ := hh.bad
  have hadr := fun w => addr_calls (lowS s) w (by omega) n hbad hh.none
  obtain ⟨h0, hf⟩ := hh.first
  have hpre := fun w => prefix_calls (lowS s) w (by omega) h0 hf
  have HLOW := Aside0.mk hlow
  have HCOL := Aside0.mk hcol
  have HADR := Aside0.mk hadr
  have HPRE := Aside0.mk hpre
  clear hlow hcol hadr hpre hf h0 hbad hh
  generalize hLS : lowS s = ls at *
  have hmk := make_hosts
  go_enter Tryz.func27, Tryz.ntmps27
  go_wp2_with fail
  clear hmk
  have hown : (w.alloc (Obj.cells #[Value.string ByteArray.empty, Value.string ByteArray.empty] 79)).ownsRow w.heap.size 79 2 (.slice (some ⟨w.heap.size, 0, none⟩) 0 1) 0 [] := own_made w
  have hc1 : (w.alloc (Obj.cells #[Value.string ByteArray.empty, Value.string ByteArray.empty] 79)).cell? ⟨H, 0, none⟩ = some (.string s) := by rw [World.cell?_alloc_lt _ _ _ (World.block_lt_of_cell? w _ hc)]; exact hc
  have hb1 : RowKit.Below w.heap.size w (w.alloc (Obj.cells #[Value.string ByteArray.empty, Value.string ByteArray.empty] 79)) := (RowKit.Below.refl _ _).alloc (Nat.le_refl _) _
  generalize w.alloc (Obj.cells #[Value.string ByteArray.empty, Value.string ByteArray.empty] 79) = w1 at *
  have hS := (hown.lt w.heap.size rfl).2
  generalize hSS : w.heap.size = S at *
  have HOWN := Aside0.mk hown
  have HS := Aside0.mk hS
  have HB1 := Aside0.mk hb1
  clear hown hS hb1 hc
  obtain ⟨i0, hi, hz0, hz1, hz2⟩ := info79
  go_loopw [4, 16] (fun acc i wr => (i = .int .i64 0 ∧ acc = .slice (some ⟨S, 0, none⟩) 0 1 ∧ wr = w1) ∨ (i = .int .i64 1 ∧ ∃ G c, acc = .slice (some ⟨G, 0, none⟩) 1 c ∧ Aside0 (wr.cell? ⟨G, 0, none⟩ = some (.string s)) ∧ Aside0 (wr.cell? ⟨G, 1, none⟩ = some (.string ls)) ∧ Aside0 (RowKit.Below S w wr))) (fun _ i _ => 1 - (intOf i).toNat)
  case atStart => exact Or.inl ⟨rfl, rfl, rfl⟩
  case round =>
    rcases hrel with ⟨rfl, rfl, rfl⟩ | ⟨rfl, G, c, rfl, G0, G1, HB⟩
    · go_wp2_with fail
      refine (HLOW.out _).mono ?_
      rintro e w2 ⟨rfl, hb2⟩
      have HB2 := Aside0.mk hb2
      clear hb2 HLOW hc1
      go_wp2_with fail
      refine (HCOL.out _).mono ?_
      rintro e w3 ⟨rfl, hb3⟩
      have HB3 : Aside0 (RowKit.Below wr.heap.size wr w3) := ⟨HB2.out.trans (hb3.mono HB2.out.size)⟩
      clear hb3 HCOL HB2
      go_wp2_with fail
      refine (HADR.out _).mono ?_
      rintro e w4 ⟨⟨v, rfl⟩, hb4⟩
      have HB4 : Aside0 (RowKit.Below wr.heap.size wr w4) := ⟨HB3.out.trans (hb4.mono HB3.out.size)⟩
      clear hb4 HADR HB3
      go_wp2_with fail
      refine (HPRE.out _).mono ?_
      rintro e w5 ⟨rfl, rfl⟩
      have HB5 : Aside0 (RowKit.Below wr.heap.size wr (w4.alloc (Obj.cells #[Value.int IntKind.u64 0, Value.int IntKind.u64 0, Value.pointer none] 75))) := ⟨HB4.out.alloc HB4.out.size _⟩
      generalize w4.alloc (Obj.cells #[Value.int IntKind.u64 0, Value.int IntKind.u64 0, Value.pointer none] 75) = w5 at *
      clear HB4 HPRE
      have OW5 : Aside0 (w5.ownsRow S 79 2 (.slice (some ⟨S, 0, none⟩) 0 1) 0 []) := ⟨own_below HOWN.out HB5.out HS.out⟩
      clear HOWN
      go_wp2_with (first
        | (at_builtin; refine wpList_append_own _ rfl _ _ 47 rfl S 79 i0 (.agg #[.string ByteArray.empty, .string ByteArray.empty]) 2 32 Tryz.underlying47 hi hz0 hz1 hz2 rfl (by decide) _ _ _ rfl (OW5.out.alloc _) ⟨w5.heap.size, 0, none⟩ 1 1 [.string s, .string ls] rfl rfl (two_new _ _ _ _) (fun x hx => by simp at hx; rcases hx with rfl | rfl <;> rfl) (by unfold maxLen; omega) (by omega) (by have := HB5.out.size; have := HS.out; simp; omega) ?_; intro v' w6 hown' hgrow hnil))
      rcases hown'.2 with ⟨hv0, _⟩ | ⟨G, cap, cur, hv, hbg, hg, hnc, hcm, hcs, htake⟩
      · exact absurd (hnil.1 hv0).2 (by decide)
      · subst hv
        have hc0 := hown'.cells (g := G) rfl 0 (.string s) rfl
        have hc1 := hown'.cells (g := G) rfl 1 (.string ls) rfl
        simp only [Addr.add] at hc0 hc1
        refine ⟨Or.inr ⟨rfl, G, cap, rfl, ⟨hc0⟩, ⟨hc1⟩, ⟨?_⟩⟩, by simp [intOf]⟩
        refine Below.grown (((HB1.out.trans (HB5.out.mono (Nat.le_of_lt HS.out))).alloc ?_ _)) hgrow ?_ (fun k hk => ?_)
        · exact Nat.le_of_lt (Nat.lt_of_lt_of_le HS.out HB5.out.size)
        · have := HB5.out.size
          have := HS.out
          simp
          omega
        · have hk' : S = k := Option.some.inj hk
          omega
    · go_wp2_with fail
      go_ret2
      exact ⟨G, c, rfl, G0.out, by rw [hLS]; exact G1.out, by rw [hSS]; exact HB.out⟩
end Go.Proofs.YtbnelehiieglbaaGreatDoor
