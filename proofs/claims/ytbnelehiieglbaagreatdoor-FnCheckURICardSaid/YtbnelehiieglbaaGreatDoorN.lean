/- Texts of ASCII in lower case; a name from its first dot on: what the calls return. Making a set of constraints out of a list of names (1 to 50 of them): what the call leaves in memory; memory that was there is as it was. -/
import Derived.Test.YtbnelehiieglbaaGreatDoorK
import Derived.Maps.Own
import Derived.Maps.StringElems
import Derived.Maps.OwnSet
namespace Go.Proofs.YtbnelehiieglbaaGreatDoor
open Go.RowKit Go.Proofs.YtbnelehiieglbaaGreatDoorW.PrintWords

theorem lowerB_is (b : UInt8) : Lib.lowerB b = Plain.lowB b := by
  revert b; exact Plain.forall_u8 _ (by decide +kernel)
theorem toLowerA_is (l : List UInt8) : Lib.toLowerA l = Plain.low l := by
  unfold Lib.toLowerA Plain.low
  rw [show Lib.lowerB = Plain.lowB from funext lowerB_is]

theorem indexByte_is (c : UInt8) : ∀ l : List UInt8, Lib.indexByte l c = -1 ∨ ∃ n : Nat, n ≤ l.length ∧ Lib.indexByte l c = n
  | [] => Or.inl rfl
  | b :: l => by
    unfold Lib.indexByte
    by_cases h : (b == c) = true
    · rw [if_pos h]; exact Or.inr ⟨0, Nat.zero_le _, rfl⟩
    · rw [if_neg h]
      rcases indexByte_is c l with h1 | ⟨n, h1, h2⟩
      · rw [h1]; exact Or.inl rfl
      · rw [h2, if_neg (by rw [beq_iff_eq]; omega)]
        exact Or.inr ⟨n + 1, by simpa using h1, by omega⟩

theorem tolower_calls (s : ByteArray) (w : World) (hs : s.size ≤ 2147483647) (ha : ∀ b ∈ L s, b < 128) :
    Calls Tryz.prog 30 #[.string s] w fun e w' => e = .returned (.string (lowS s)) ∧ RowKit.Below w.heap.size w w' := by
  have h := Tryz.strings_ToLower_ascii s w (by omega) (fun j b hj => by
    have := ha b (List.mem_of_getElem? hj)
    rw [UInt8.lt_iff_toNat_lt] at this
    exact this)
  rw [toLowerA_is] at h
  exact h

def SomeText (n : Nat) (w w' : World) (e : Ending) : Prop := ∃ t : ByteArray, t.size ≤ n ∧ e = .returned (.string t) ∧ w = w'

set_option maxHeartbeats 400000 in
theorem trim_calls (s : ByteArray) (w : World) :
    Calls Tryz.prog 41 #[.string s] w fun e w' => SomeText s.size w w' e := by
  have hi := Tryz.strings_IndexByte s 46 w
  have hr : Lib.indexByte s.data.toList (46 : Int).toNat.toUInt8 < 0 ∨ ∃ n : Nat, n ≤ s.size ∧ Lib.indexByte s.data.toList (46 : Int).toNat.toUInt8 = n := by
    rcases indexByte_is (46 : Int).toNat.toUInt8 s.data.toList with h | ⟨n, h1, h2⟩
    · exact Or.inl (by rw [h]; decide)
    · exact Or.inr ⟨n, by simpa using h1, h2⟩
  rcases hr with hr | ⟨n, hn, hr⟩
  · generalize Lib.indexByte s.data.toList (46 : Int).toNat.toUInt8 = i at *
    have HI := Aside0.mk hi
    clear hi
    go_enter Tryz.func41, Tryz.ntmps41
    go_wp2_with fail
    refine HI.out.mono ?_
    rintro e w' ⟨rfl, rfl⟩
    go_wp2_with fail
    go_ret
    exact ⟨ByteArray.empty, Nat.zero_le _, rfl, rfl⟩
  · rw [hr] at hi
    clear hr
    have HI := Aside0.mk hi
    clear hi
    go_enter Tryz.func41, Tryz.ntmps41
    go_wp2_with fail
    refine HI.out.mono ?_
    rintro e w' ⟨rfl, rfl⟩
    go_wp2
    go_ret
    exact ⟨_, by rw [ByteArray.size_extract]; omega, rfl, rfl⟩
end Go.Proofs.YtbnelehiieglbaaGreatDoor
namespace Go.Proofs.YtbnelehiieglbaaGreatDoor
open Go.RowKit Go.Proofs.YtbnelehiieglbaaGreatDoorW.PrintWords
open Go.Lib Go.Sort Go.WideMaps Go.Maps Go.WideElems

/-- A set of constraints in memory, which stands for a list of names. -/
def IsCons (w : World) (Q : Nat) (l : List Str) : Prop :=
  ∃ (perm : Bool) (P G cap : Nat) (T : Array Str), Rests l T ∧ T.size ≤ cap ∧ cap ≤ 9223372036854775807 ∧ w.cell? ⟨Q, 0, none⟩ = some (.bool false) ∧ w.cell? ⟨Q, 1, none⟩ = some (.bool perm) ∧
    w.cell? ⟨Q, 2, none⟩ = some (.pointer (some ⟨P, 0, none⟩)) ∧ w.cell? ⟨P, 0, none⟩ = some (.slice (some ⟨G, 0, none⟩) T.size cap) ∧ Holds enc w G 0 T

theorem cell_kept {w w' : World} (hb : RowKit.Below w.heap.size w w') {a : Addr} {v : Value} (h : w.cell? a = some v) : w'.cell? a = some v := by
  rw [hb.cell (World.block_lt_of_cell? w a h)]; exact h

theorem IsCons.below {w w' : World} {Q : Nat} {l : List Str} (h : IsCons w Q l) (hb : RowKit.Below w.heap.size w w') : IsCons w' Q l := by
  obtain ⟨perm, P, G, cap, T, hR, h1, h2, c0, c1, c2, c3, hH⟩ := h
  refine ⟨perm, P, G, cap, T, hR, h1, h2, cell_kept hb c0, cell_kept hb c1, cell_kept hb c2, cell_kept hb c3, fun j hj => ?_⟩
  obtain ⟨q1, q2⟩ := hH j hj
  refine ⟨cell_kept hb q1, ?_⟩
  rw [hb.frozen (World.block_lt_of_cell? w _ q1)]
  exact q2

/-- Whether one of the names covers s. -/
def covers (l : List Str) (s : Str) : Bool := l.any fun x => cov x s
theorem found_covers {l : List Str} {T : Array Str} (h : Rests l T) (s : Str) : foundA T s = covers l s := by
  rw [Bool.eq_iff_iff, h.tells s]
  unfold covers
  rw [List.any_eq_true]
  simp only [cov_iff]

theorem asks_calls (Q : Nat) (l : List Str) (s : Str) (w : World) (h : IsCons w Q l) (hl : l.length ≤ 50) (hstar : (L s.1).head? ≠ some 42) :
    Calls Tryz.prog 127 #[.pointer (some ⟨Q, 0, none⟩), .string s.1] w fun e w' => SomeStr (covers l s) w w' e := by
  obtain ⟨perm, P, G, cap, T, hR, h1, h2, c0, c1, c2, c3, hH⟩ := h
  rw [← found_covers hR s]
  exact query_calls Q P G cap perm T s w hR.one (by have := hR.le; omega) c0 c1 c2 c3 hH hR.sorted h1 h2 hstar

set_option maxHeartbeats 400000 in
theorem cons_nil (A : Option Addr) (c : Nat) (perm : Bool) (w : World) :
    Calls Tryz.prog 28 #[.slice A 0 c, .bool perm] w fun e w' => e = .returned .nilIface ∧ w = w' := by
  go_enter Tryz.func28, Tryz.ntmps28
  go_wp2
  go_ret
  exact ⟨rfl, rfl⟩

theorem frz_alloc (w : World) (o : Obj) (a : Addr) (h : a.block < w.heap.size) : (w.alloc o).frozen? a = w.frozen? a := ((RowKit.Below.refl w.heap.size w).alloc (Nat.le_refl _) o).frozen h

/-- What memory holds when the constraints have been copied and the set has been made. -/
structure Made (w w2 : World) (G cp P : Nat) (perm : Bool) (l : List Str) : Prop where
  holds : Holds enc w2 G 0 l.toArray
  p0 : w2.cell? ⟨P, 0, none⟩ = some (.slice (some ⟨G, 0, none⟩) l.length cp)
  pf : w2.frozen? ⟨P, 0, none⟩ = false
  q0 : w2.cell? ⟨P + 1, 0, none⟩ = some (.bool false)
  q1 : w2.cell? ⟨P + 1, 1, none⟩ = some (.bool perm)
  q2 : w2.cell? ⟨P + 1, 2, none⟩ = some (.pointer (some ⟨P, 0, none⟩))
  q3 : w2.cell? ⟨P + 1, 3, none⟩ = some (.map none)
  qf : w2.frozen? ⟨P + 1, 3, none⟩ = false
  bel : RowKit.Below w.heap.size w w2
  g0 : w.heap.size ≤ G
  g1 : G < P
  p1 : w.heap.size ≤ P
  sz : w2.heap.size = P + 2
  c1 : l.length ≤ cp
  c2 : cp ≤ 9223372036854775807

theorem made (w w1 : World) (G cp : Nat) (perm : Bool) (l : List Str) (hown : w1.ownsRow w.heap.size 9 1 (.slice (some ⟨G, 0, none⟩) l.length cp) l.length (((l.map (·.1)).take l.length).map Value.string))
    (hb : RowKit.Below w.heap.size w w1) :
    Made w ((w1.alloc (Obj.cells #[Value.slice (some ⟨G, 0, none⟩) l.length cp] 87)).alloc (Obj.cells #[Value.bool false, Value.bool perm, Value.pointer (some ⟨w1.heap.size, 0, none⟩), Value.map none] 84)) G cp w1.heap.size perm l := by
  obtain ⟨hl1, hl2⟩ := hown.lt G rfl
  have hcc : l.length ≤ cp ∧ cp ≤ maxLen := by
    rcases hown.2 with ⟨h', _⟩ | ⟨g', cap', cur, h', _, _, q1, q2, _⟩
    · simp at h'
    · simp only [Value.slice.injEq, Option.some.injEq, Addr.mk.injEq, and_true, true_and] at h'
      omega
  have hsz := hb.size
  refine ⟨fun j hj => ?_, ?_, ?_, ?_, ?_, ?_, ?_, ?_, ?_, hl1, hl2, hsz, by simp, hcc.1, by have := hcc.2; unfold maxLen at this; omega⟩
  · have hj' : j < l.length := by simpa using hj
    have hc := hown.cellAt j (by omega)
    have hf := hown.frozenAt j
    rw [List.take_of_length_le (by simp), List.getElem?_map, List.getElem?_map, List.getElem?_eq_getElem hj'] at hc
    refine ⟨?_, ?_⟩
    · rw [Nat.zero_add, World.cell?_alloc_lt _ _ _ (by simp; omega), World.cell?_alloc_lt _ _ _ hl2, hc]
      rw [getElem!_pos _ j hj]
      rfl
    · rw [Nat.zero_add, frz_alloc _ _ _ (by simp; omega), frz_alloc _ _ _ hl2]
      exact hf
  · rw [World.cell?_alloc_lt _ _ _ (by simp), World.cell?_alloc_at _ _ _ _ rfl]; rfl
  · rw [frz_alloc _ _ _ (by simp), World.frozen?_alloc_at _ _ _ _ rfl]
  · rw [World.cell?_alloc_at _ _ _ _ (by simp)]; rfl
  · rw [World.cell?_alloc_at _ _ _ _ (by simp)]; rfl
  · rw [World.cell?_alloc_at _ _ _ _ (by simp)]; rfl
  · rw [World.cell?_alloc_at _ _ _ _ (by simp)]; rfl
  · rw [World.frozen?_alloc_at _ _ _ _ (by simp)]
  · exact (hb.alloc hsz _).alloc (by simp; omega) _
theorem lawStr : Keyed Tryz.prog 9 := string_keyed Tryz.underlying9
/-- A map of texts of the call's own. -/
def OwnTexts (w : World) (b n : Nat) : Prop := ∃ D : DataW Unit, w.ownsMap Tryz.prog 9 (plainElem Tryz.prog 9) b n D
theorem OwnTexts.below {w w' : World} {b n : Nat} (h : OwnTexts w b n) (hb : RowKit.Below w.heap.size w w') : OwnTexts w' b n := by
  obtain ⟨D, h⟩ := h
  exact ⟨D, h.kept (row := none) ⟨hb.os, hb.tape, hb.output, hb.size, fun i hi _ => hb.block i hi⟩ (by simp)⟩
theorem OwnTexts.more {w : World} {b n n' : Nat} (h : OwnTexts w b n) (hn : n ≤ n') : OwnTexts w b n' := by
  obtain ⟨D, h⟩ := h
  exact ⟨D, h.mono hn⟩

set_option maxHeartbeats 1600000 in
set_option maxRecDepth 100000 in
theorem cons_calls (g cap : Nat) (perm : Bool) (l : List Str) (w : World) (h1 : 1 ≤ l.length) (hn : l.length ≤ 50) (hcap : l.length ≤ cap) (hcap2 : cap ≤ 9223372036854775807)
    (hc : ∀ j (x : Str), l[j]? = some x → w.cell? ⟨g, j, none⟩ = some (.string x.1)) :
    Calls Tryz.prog 28 #[.slice (some ⟨g, 0, none⟩) l.length cap, .bool perm] w fun e w' =>
      ∃ Q, e = .returned (.iface 80 (.pointer (some ⟨Q, 0, none⟩))) ∧ IsCons w' Q l ∧ RowKit.Below w.heap.size w w' := by
  have hcl := Tryz.slices_Clone_string g 0 l.length cap (l.map (·.1)) w (by simp) (by omega) (fun j hj => by
    rw [List.length_map] at hj
    rw [Nat.zero_add, hc j l[j] (List.getElem?_eq_getElem hj), List.getD_eq_getElem?_getD, List.getElem?_map, List.getElem?_eq_getElem hj]
    rfl)
  have HC := Aside0.mk hc
  have HCL := Aside0.mk hcl
  clear hc hcl
  have hmm := @run_makeMap Tryz.prog
  go_enter Tryz.func28, Tryz.ntmps28
  go_wp2
  go_loop [18] (fun i => ∃ k : Nat, k ≤ l.length ∧ i = .int .i64 k) (fun i => l.length - (intOf i).toNat)
  case atStart => exact ⟨0, Nat.zero_le _, rfl⟩
  case round =>
    obtain ⟨k, hk, rfl⟩ := hrel
    by_cases hlt : k < l.length
    · have hx := HC.out k l[k] (List.getElem?_eq_getElem hlt)
      have hpos := l[k].2.1
      generalize l[k].1 = xs at hx hpos
      go_wp2
      go_round
      case rel => exact ⟨k + 1, by omega, by go_num⟩
      case measure => simp [intOf]; omega
    · go_wp2_with fail
      refine HCL.out.mono ?_
      rintro e w1 ⟨v', rfl, hown, hne, hb1⟩
      obtain ⟨G, cp, rfl, hGlo, hGhi⟩ := hown.form (by omega)
      have hm := made w w1 G cp perm l hown hb1
      clear hown hne hb1 HCL HC hGlo hGhi
      go_wp2_with fail
      generalize hW2 : (w1.alloc (Obj.cells #[Value.slice (some ⟨G, 0, none⟩) l.length cp] 87)).alloc (Obj.cells #[Value.bool false, Value.bool perm, Value.pointer (some ⟨w1.heap.size, 0, none⟩), Value.map none] 84) = w2 at *
      clear hW2
      generalize w1.heap.size = P at *
      refine (prune_any P G cp l w2 h1 hn hm.p0 hm.pf hm.holds (by have := hm.g1; omega) hm.c1 hm.c2).mono ?_
      rintro e w3 ⟨rfl, T, hR, hH3, hP3, hPf3, hO3⟩
      have hq : ∀ j, w3.cell? ⟨P + 1, j, none⟩ = w2.cell? ⟨P + 1, j, none⟩ := fun j => hO3.cell (a := ⟨P + 1, j, none⟩) (by rw [hm.sz]; show P + 1 < P + 2; omega) (by have := hm.g1; show ¬ (P + 1 = P ∨ P + 1 = G); omega)
      have q0 : w3.cell? ⟨P + 1, 0, none⟩ = some (.bool false) := (hq 0).trans hm.q0
      have q1 : w3.cell? ⟨P + 1, 1, none⟩ = some (.bool perm) := (hq 1).trans hm.q1
      have q2 : w3.cell? ⟨P + 1, 2, none⟩ = some (.pointer (some ⟨P, 0, none⟩)) := (hq 2).trans hm.q2
      have q3 : w3.cell? ⟨P + 1, 3, none⟩ = some (.map none) := (hq 3).trans hm.q3
      have qf : w3.frozen? ⟨P + 1, 3, none⟩ = false := (hO3.frozen (a := ⟨P + 1, 3, none⟩) (by rw [hm.sz]; show P + 1 < P + 2; omega) (by have := hm.g1; show ¬ (P + 1 = P ∨ P + 1 = G); omega)).trans hm.qf
      have hb3 : RowKit.Below w.heap.size w w3 := hO3.below hm.bel hm.bel.size (fun b hb => by have := hm.g0; have := hm.p1; omega)
      have hTc : T.size ≤ cp := Nat.le_trans hR.le hm.c1
      have hPsz : P + 2 ≤ w3.heap.size := by have := hO3.size; rw [hm.sz] at this; exact this
      have hgp := hm.g1
      have hwp := hm.p1
      have hcp := hm.c2
      have HB3 := Aside0.mk hb3
      have HR := Aside0.mk hR
      have HH3 := Aside0.mk hH3
      have QF := Aside0.mk qf
      clear hq hb3 hR hH3 hPf3 hO3 hm qf
      cases perm with
      | true =>
        go_wp2_with fail
        go_ret
        exact ⟨P + 1, rfl, ⟨true, P, G, cp, T, HR.out, hTc, hcp, q0, q1, q2, hP3, HH3.out⟩, HB3.out⟩
      | false =>
        have hT1 := HR.out.one
        have hT2 := HR.out.le
        have m2 : (w3.alloc (.map #[] 0)).cell? ⟨P + 1, 2, none⟩ = some (.pointer (some ⟨P, 0, none⟩)) := by rw [World.cell?_alloc_lt _ _ _ (by show P + 1 < w3.heap.size; omega)]; exact q2
        have m3 : (w3.alloc (.map #[] 0)).cell? ⟨P, 0, none⟩ = some (.slice (some ⟨G, 0, none⟩) T.size cp) := by rw [World.cell?_alloc_lt _ _ _ (by show P < w3.heap.size; omega)]; exact hP3
        go_wp2_with fail
        clear m2 m3
        clear hmm
        have hM0 : OwnTexts (w3.alloc (.map #[] 0)) w3.heap.size 0 := ⟨.map [], World.ownsMap_made _ _ _ _⟩
        have HM0 := Aside0.mk hM0
        clear hM0
        go_loopw [53] (fun i wr => ∃ k : Nat, k ≤ T.size ∧ i = .int .i64 k ∧ Aside0 (OwnTexts wr w3.heap.size k) ∧ Aside0 (RowKit.Below w3.heap.size w3 wr) ∧ Aside0 (w3.heap.size < wr.heap.size)) (fun i _ => T.size - (intOf i).toNat)
        case atStart => exact ⟨0, Nat.zero_le _, rfl, HM0, ⟨(RowKit.Below.refl _ _).alloc (Nat.le_refl _) _⟩, ⟨by simp⟩⟩
        case round =>
          clear HM0
          obtain ⟨k, hk, rfl, HM, HB, HL⟩ := hrel
          by_cases hlt : k < T.size
          · have hx : wr.cell? ⟨G, k, none⟩ = some (.string T[k]!.1) := by
              have := (HH3.out k hlt).1
              rw [Nat.zero_add] at this
              rw [HB.out.cell (p := ⟨G, k, none⟩) (by show G < w3.heap.size; omega)]
              exact this
            have hl1 : T[k]!.1.size ≤ 2147483647 := T[k]!.2.2.1
            have hlo := fun W => tolower_calls T[k]!.1 W hl1 (fun b hb => (T[k]!.2.2.2 b hb).2)
            have hsz : (lowS T[k]!.1).size ≤ 2147483647 := by rw [lowS_size]; exact hl1
            generalize T[k]!.1 = xs at *
            generalize lowS xs = ys at *
            have htr := fun W => trim_calls ys W
            have HLO := Aside0.mk hlo
            have HTR := Aside0.mk htr
            clear hlo htr
            go_wp2_with fail
            refine (HLO.out _).mono ?_
            rintro e w4 ⟨rfl, hb4⟩
            have HB4 := Aside0.mk (HB.out.trans (hb4.mono HB.out.size))
            have HM4 := Aside0.mk (HM.out.below hb4)
            have HL4 := Aside0.mk (Nat.lt_of_lt_of_le HL.out hb4.size)
            clear hb4 HLO hx HM HB HL
            go_wp2_with fail
            refine (HTR.out _).mono ?_
            rintro e w5 ⟨t, ht, rfl, rfl⟩
            clear HTR
            by_cases hte : t.toList = []
            · have hte2 : (t.toList == []) = true := by rw [hte]; rfl
              go_wp2_with fail
              go_roundw
              case rel => exact ⟨k + 1, by omega, by go_num, ⟨HM4.out.more (by omega)⟩, ⟨HB4.out⟩, ⟨HL4.out⟩⟩
              case measure => simp [intOf]; omega
            · have hte2 : (t.toList == []) = false := by rw [beq_eq_false_iff_ne]; exact hte
              have hte3 : (!t.toList.isEmpty) = true := by rw [Bool.not_eq_true', List.isEmpty_eq_false_iff]; exact hte
              have hte4 : t.toList.isEmpty = false := by rw [List.isEmpty_eq_false_iff]; exact hte
              have hkey : keyOf Tryz.prog 9 (.string t) = some (.string t.data.toList) := keyOf_string_mk Tryz.underlying9 (by unfold maxLen; omega)
              obtain ⟨D, hown⟩ := HM4.out
              have HOWN := Aside0.mk hown
              clear hown HM4 hte
              go_wp2_with (at_mapUpdate; refine wpList_mapUpdate_own _ rfl _ _ _ 82 rfl 9 9 lawStr Tryz.underlying82 _ w3.heap.size k _ rfl HOWN.out ?hb _ _ _ rfl rfl hkey _ [] (plainElem_string Tryz.underlying9 ?hs) ?_)
              case hb => unfold maxLen; omega
              case hs => unfold maxLen; omega
              intro w6 hown6 hg6
              have HM6 : Aside0 (OwnTexts w6 w3.heap.size (k + 1)) := ⟨⟨_, hown6⟩⟩
              have HB6 : Aside0 (RowKit.Below w3.heap.size w3 w6) := ⟨HB4.out.grown hg6 HB4.out.size (fun j hj => by injection hj with hj; omega)⟩
              have HL6 : Aside0 (w3.heap.size < w6.heap.size) := ⟨Nat.lt_of_lt_of_le HL4.out hg6.size⟩
              clear hown6 hg6 HOWN HB4 HL4 hkey
              go_wp2_with fail
              go_roundw
              case rel => exact ⟨k + 1, by omega, by go_num, HM6, HB6, HL6⟩
              case measure => simp [intOf]; omega
          · obtain ⟨D, hown⟩ := HM.out
            have HOWN := Aside0.mk hown
            have q0' : wr.cell? ⟨P + 1, 0, none⟩ = some (.bool false) := by rw [HB.out.cell (p := ⟨P + 1, 0, none⟩) (by show P + 1 < w3.heap.size; omega)]; exact q0
            have q1' : wr.cell? ⟨P + 1, 1, none⟩ = some (.bool false) := by rw [HB.out.cell (p := ⟨P + 1, 1, none⟩) (by show P + 1 < w3.heap.size; omega)]; exact q1
            have q2' : wr.cell? ⟨P + 1, 2, none⟩ = some (.pointer (some ⟨P, 0, none⟩)) := by rw [HB.out.cell (p := ⟨P + 1, 2, none⟩) (by show P + 1 < w3.heap.size; omega)]; exact q2
            have q3' : wr.cell? ⟨P + 1, 3, none⟩ = some (.map none) := by rw [HB.out.cell (p := ⟨P + 1, 3, none⟩) (by show P + 1 < w3.heap.size; omega)]; exact q3
            have qf' : wr.frozen? ⟨P + 1, 3, none⟩ = false := by rw [HB.out.frozen (p := ⟨P + 1, 3, none⟩) (by show P + 1 < w3.heap.size; omega)]; exact QF.out
            have p0' : wr.cell? ⟨P, 0, none⟩ = some (.slice (some ⟨G, 0, none⟩) T.size cp) := by rw [HB.out.cell (p := ⟨P, 0, none⟩) (by show P < w3.heap.size; omega)]; exact hP3
            have hH' : Holds enc wr G 0 T := fun j hj => by
              obtain ⟨u1, u2⟩ := HH3.out j hj
              exact ⟨by rw [HB.out.cell (p := ⟨G, 0 + j, none⟩) (by show G < w3.heap.size; omega)]; exact u1, by rw [HB.out.frozen (p := ⟨G, 0 + j, none⟩) (by show G < w3.heap.size; omega)]; exact u2⟩
            have hbel : RowKit.Below w.heap.size w wr := HB3.out.trans (HB.out.mono HB3.out.size)
            have HCONS : Aside0 (IsCons wr (P + 1) l) := ⟨⟨false, P, G, cp, T, HR.out, hTc, hcp, q0', q1', q2', p0', hH'⟩⟩
            have HBEL := Aside0.mk hbel
            have HCONS2 : Aside0 (IsCons (wr.setCell ⟨P + 1, 3, none⟩ (.map (some w3.heap.size))) (P + 1) l) := by
              have oth : ∀ (b o : Nat), (⟨P + 1, 3, none⟩ : Addr) ≠ ⟨b, o, none⟩ → (wr.setCell ⟨P + 1, 3, none⟩ (.map (some w3.heap.size))).cell? ⟨b, o, none⟩ = wr.cell? ⟨b, o, none⟩ := fun b o h => World.cell?_setCell_other wr _ _ _ h
              refine ⟨⟨false, P, G, cp, T, HR.out, hTc, hcp, ?_, ?_, ?_, ?_, fun j hj => ⟨?_, ?_⟩⟩⟩
              · rw [oth _ _ (fun h => by injection h with _ h; omega)]; exact q0'
              · rw [oth _ _ (fun h => by injection h with _ h; omega)]; exact q1'
              · rw [oth _ _ (fun h => by injection h with _ h; omega)]; exact q2'
              · rw [oth _ _ (fun h => by injection h with h; omega)]; exact p0'
              · rw [oth _ _ (fun h => by injection h with h; omega)]; exact (hH' j hj).1
              · rw [World.frozen?_setCell]; exact (hH' j hj).2
            have HBEL2 : Aside0 (RowKit.Below w.heap.size w (wr.setCell ⟨P + 1, 3, none⟩ (.map (some w3.heap.size)))) := ⟨hbel.setCell (by show w.heap.size ≤ P + 1; omega) _⟩
            clear q0' q1' q2' p0' hH' hbel hown HM HB HL q0 q1 q2 q3 hP3 HB3 HR HH3 QF
            go_wp2_with (at_len; refine wpList_len_own _ rfl _ 82 rfl 9 9 Tryz.underlying82 _ w3.heap.size k _ rfl HOWN.out ?_)
            · go_ret
              exact ⟨P + 1, rfl, HCONS2.out, HBEL2.out⟩
            · go_ret
              exact ⟨P + 1, rfl, HCONS.out, HBEL.out⟩
end Go.Proofs.YtbnelehiieglbaaGreatDoor
