/- Checking one host by a chain's constraints: what the call returns. -/
import Derived.Test.YtbnelehiieglbaaGreatDoorT
import Derived.StillTailTactics
namespace Go.Proofs.YtbnelehiieglbaaGreatDoor
open Go.RowKit Go.Proofs.YtbnelehiieglbaaGreatDoorW.PrintWords

set_option maxRecDepth 100000 in
set_option maxHeartbeats 1000000 in
theorem chain_calls (I1 I2 : Value) (lp lx : List Str) (s : Str) (h : ByteArray) (C G c : Nat) (w : World) (h1 : IsSet w I1 lp) (h2 : IsSet w I2 lx) (hstar : (L s.1).head? ≠ some 42) (hd : domOk s.1)
    (c0 : w.cell? ⟨C, 6, none⟩ = some (.string theURI)) (c1 : w.cell? ⟨C, 7, none⟩ = some I1) (c2 : w.cell? ⟨C, 8, none⟩ = some I2)
    (g0 : w.cell? ⟨G, 0, none⟩ = some (.string h)) (g1 : w.cell? ⟨G, 1, none⟩ = some (.string s.1)) :
    Calls Tryz.prog 29 #[.pointer (some ⟨C, 0, none⟩), .slice none 0 0, .slice (some ⟨G, 0, none⟩) 1 c, .slice none 0 0, .slice none 0 0] w fun e w' => Answer (refuses lp lx s) w w' e := by
  have hchk := fun w (h1 : IsSet w I1 lp) (h2 : IsSet w I2 lx) => check_calls I1 I2 lp lx s h w h1 h2 hstar
  have hdom := fun w => domain_calls s.1 w s.2.2.1 s.2.1 hd
  have HCHK := Aside0.mk hchk
  have HDOM := Aside0.mk hdom
  have H1 := Aside0.mk h1
  have H2 := Aside0.mk h2
  clear hchk hdom h1 h2 hd hstar
  generalize hsx : s.1 = sx at *
  generalize refuses lp lx s = rf at *
  go_enter Tryz.func29, Tryz.ntmps29
  go_wp2_with fail
  go_rounds 1
  go_rounds 1
  go_loopw [63] (fun i wr => (i = .int .i64 0 ∧ wr = w) ∨ (i = .int .i64 1 ∧ rf = false ∧ Aside0 (RowKit.Below w.heap.size w wr))) (fun i _ => 1 - (intOf i).toNat)
  case atStart => exact Or.inl ⟨rfl, rfl⟩
  case round =>
    rcases hrel with ⟨rfl, rfl⟩ | ⟨rfl, rfl, HB⟩
    · go_wp2_with fail
      refine (HDOM.out _).mono ?_
      rintro e w2 ⟨rfl, hb⟩
      have hx0 : (wr.alloc (Obj.cells #[Value.string h, Value.string sx] 79)).cell? ⟨wr.heap.size, 0, none⟩ = some (.string h) := by go_cell
      have hx1 : (wr.alloc (Obj.cells #[Value.string h, Value.string sx] 79)).cell? ⟨wr.heap.size, 1, none⟩ = some (.string sx) := by go_cell
      have hb0 : RowKit.Below wr.heap.size wr (wr.alloc (Obj.cells #[Value.string h, Value.string sx] 79)) := (RowKit.Below.refl _ _).alloc (Nat.le_refl _) _
      have x0 := cell_kept hb hx0
      have x1 := cell_kept hb hx1
      have hbb : RowKit.Below wr.heap.size wr w2 := hb0.trans (hb.mono hb0.size)
      have d0 := cell_kept hbb c0
      have d1 := cell_kept hbb c1
      have d2 := cell_kept hbb c2
      have HBB := Aside0.mk hbb
      clear hx0 hx1 hb0 hb hbb c0 c1 c2 g0 g1 HDOM
      generalize hX : wr.heap.size = X at *
      go_wp2_with fail
      go_still_tail 7, (by kernel_rfl)
      change wpList _ _ _ _ _ w2.drew
      have e0 : w2.drew.cell? ⟨X, 0, none⟩ = some (.string h) := x0
      have e1 : w2.drew.cell? ⟨X, 1, none⟩ = some (.string sx) := x1
      have HB2 : Aside0 (RowKit.Below X wr w2.drew) := ⟨HBB.out.drew⟩
      clear x0 x1 d0 d1 d2 HBB
      generalize w2.drew = w3 at *
      go_wp2_with fail
      refine (HCHK.out w3 (H1.out.below (by rw [hX]; exact HB2.out)) (H2.out.below (by rw [hX]; exact HB2.out))).mono ?_
      rintro e w4 ⟨hb4, ha⟩
      have HB4 : Aside0 (RowKit.Below X wr w4) := ⟨HB2.out.trans (hb4.mono (by have := HB2.out.size; omega))⟩
      clear HB2 hb4 HCHK H1 H2
      rcases ha with ⟨rfl, rfl⟩ | ⟨rfl, E, t, rfl, ht, hr⟩
      · go_wp2_with fail
        exact ⟨Or.inr ⟨rfl, trivial, ⟨by rw [hX]; exact HB4.out⟩⟩, by simp [intOf]⟩
      · have HT := Aside0.mk ht
        clear ht
        go_wp2_with fail
        go_ret
        exact ⟨by rw [hX]; exact HB4.out, .inr ⟨rfl, E, t, rfl, HT.out, hr⟩⟩
    · go_wp2_with fail
      go_rounds 1
      go_ret
      exact Answer.good HB.out
end Go.Proofs.YtbnelehiieglbaaGreatDoor
