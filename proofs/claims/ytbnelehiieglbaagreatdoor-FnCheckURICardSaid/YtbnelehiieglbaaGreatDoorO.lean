/- New errors; the end of a text; the code of an error: what the calls return. -/
import Derived.Test.YtbnelehiieglbaaGreatDoorN
import Derived.Handy
namespace Go.Proofs.YtbnelehiieglbaaGreatDoor
open Go.RowKit Go.Proofs.YtbnelehiieglbaaGreatDoorW.PrintWords

def NewError (s : ByteArray) (w w' : World) (e : Ending) : Prop :=
  e = .returned (.iface 109 (.pointer (some ⟨w.heap.size, 0, none⟩))) ∧ w' = w.alloc (.cells #[.string s] 111)

set_option maxHeartbeats 400000 in
theorem new_calls (s : ByteArray) (w : World) : Calls Tryz.prog 31 #[.string s] w fun e w' => NewError s w w' e := by
  go_enter Tryz.func31, Tryz.ntmps31
  go_wp2
  go_ret
  exact ⟨rfl, rfl⟩

set_option maxHeartbeats 400000 in
theorem error_calls (s : ByteArray) (E : Nat) (w : World) (h : w.cell? ⟨E, 0, none⟩ = some (.string s)) :
    Calls Tryz.prog 134 #[.pointer (some ⟨E, 0, none⟩)] w fun e w' => e = .returned (.string s) ∧ w = w' := by
  go_enter Tryz.func134, Tryz.ntmps134
  go_wp2
  go_ret
  exact ⟨rfl, rfl⟩

def endsB (a b : ByteArray) : Bool := decide (b.size ≤ a.size) && ((L a).drop (a.size - b.size) == L b)

set_option maxHeartbeats 400000 in
theorem ends_calls (a b : ByteArray) (w : World) (ha : a.size ≤ 2147483647) (hb : b.size ≤ 2147483647) :
    Calls Tryz.prog 26 #[.string a, .string b] w fun e w' => e = .returned (.bool (endsB a b)) ∧ w = w' := by
  go_enter Tryz.func26, Tryz.ntmps26
  unfold endsB
  go_wp2
  · rename_i h
    go_ret
    refine ⟨?_, rfl⟩
    rw [decide_eq_true h, Bool.true_and, toList_eq, toList_eq, L_extract, List.take_of_length_le (by rw [L_length]; omega)]
    rfl
  · rename_i h
    go_ret
    exact ⟨by rw [decide_eq_false h]; rfl, rfl⟩

def notPermitted : ByteArray := ⟨#[32, 105, 115, 32, 110, 111, 116, 32, 112, 101, 114, 109, 105, 116, 116, 101, 100, 32, 98, 121, 32, 97, 110, 121, 32, 99, 111, 110, 115, 116, 114, 97, 105, 110, 116]⟩
def isExcluded : ByteArray := ⟨#[32, 105, 115, 32, 101, 120, 99, 108, 117, 100, 101, 100, 32, 98, 121, 32, 97, 32, 99, 111, 110, 115, 116, 114, 97, 105, 110, 116]⟩
def theURI : ByteArray := ⟨#[85, 82, 73]⟩
def text1 : ByteArray := ⟨#[105, 115, 32, 110, 111, 116, 32, 112, 101, 114, 109, 105, 116, 116, 101, 100, 32, 98, 121, 32, 97, 110, 121, 32, 99, 111, 110, 115, 116, 114, 97, 105, 110, 116]⟩
def text2 : ByteArray := ⟨#[105, 115, 32, 101, 120, 99, 108, 117, 100, 101, 100, 32, 98, 121, 32, 97, 32, 99, 111, 110, 115, 116, 114, 97, 105, 110, 116]⟩
/-- The two texts of a name that is refused. -/
def Refusal (s : ByteArray) : Prop := s = theURI ++ notPermitted ∨ s = theURI ++ isExcluded
theorem refusal (s : ByteArray) (h : Refusal s) : s.size ≤ 2147483647 ∧ (endsB s text1 || endsB s text2) = true := by
  rcases h with rfl | rfl
  · exact ⟨by decide +kernel, by decide +kernel⟩
  · exact ⟨by decide +kernel, by decide +kernel⟩

set_option maxHeartbeats 400000 in
theorem codeOf_nil (w : World) : Calls Tryz.prog 22 #[.nilIface] w fun e w' => e = .returned (.int .i64 0) ∧ w = w' := by
  go_enter Tryz.func22, Tryz.ntmps22
  go_wp2
  go_ret
  exact ⟨rfl, rfl⟩

set_option maxHeartbeats 400000 in
theorem codeOf_refused (s : ByteArray) (E : Nat) (w : World) (h : w.cell? ⟨E, 0, none⟩ = some (.string s)) (hr : Refusal s) :
    Calls Tryz.prog 22 #[.iface 109 (.pointer (some ⟨E, 0, none⟩))] w fun e w' => e = .returned (.int .i64 1) ∧ w = w' := by
  obtain ⟨hs, hr⟩ := refusal s hr
  have h0 := error_calls s E w h
  have h1 := fun w => ends_calls s text1 w hs (by decide)
  have h2 := fun w => ends_calls s text2 w hs (by decide)
  generalize endsB s text1 = b1 at *
  generalize endsB s text2 = b2 at *
  have H0 := Aside0.mk h0
  have H1 := Aside0.mk h1
  have H2 := Aside0.mk h2
  clear h0 h1 h2 h
  go_enter Tryz.func22, Tryz.ntmps22
  go_wp2_with fail
  refine H0.out.mono ?_
  rintro e w1 ⟨rfl, rfl⟩
  clear H0
  go_wp2_with fail
  refine (H1.out _).mono ?_
  rintro e w1 ⟨rfl, rfl⟩
  clear H1
  cases b1 with
  | true =>
    go_wp2_with fail
    go_ret
    exact ⟨rfl, rfl⟩
  | false =>
    go_wp2_with fail
    refine (H2.out _).mono ?_
    rintro e w1 ⟨rfl, rfl⟩
    clear H2
    obtain rfl : b2 = true := hr
    go_wp2_with fail
    go_ret
    exact ⟨rfl, rfl⟩
end Go.Proofs.YtbnelehiieglbaaGreatDoor
