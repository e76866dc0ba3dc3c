/-
  Seat b6612627a: the walk of the law FnOutermostNamesFirstElement.
-/
import Derived.Test.Qxb6612627aIs
namespace Go.Proofs.Qxb6612627a
open Go.RowKit

set_option maxHeartbeats 400000 in
theorem lawA_far (f : ByteArray) (h : 1048576 < f.size) (w : World) :
    Calls Try.prog 3 #[.string f] w fun e w' => e = .returned (.bool true) ∧ Below w.heap.size w w' := by
  go_enter Try.func3, Try.ntmps3
  go_wp2_with (go_at_call 6; refine (bytes1_no f _ h).mono ?_; rintro e w' ⟨rfl, rfl⟩)
  go_ret
  exact ⟨rfl, Below.refl _ _⟩

set_option maxHeartbeats 400000 in
theorem lawA_big (f : ByteArray) (h : f.size ≤ 1048576) (hb : 65536 < f.size) (w : World) :
    Calls Try.prog 3 #[.string f] w fun e w' => e = .returned (.bool true) ∧ Below w.heap.size w w' := by
  have d1 : decide (65536 < (f.size : Int)) = true := decide_eq_true (by omega)
  go_enter Try.func3, Try.ntmps3
  go_wp2_with (go_at_call 6; refine (bytes1_yes f _ h).mono ?_; rintro e w' ⟨rfl, rfl⟩)
  go_ret
  exact ⟨rfl, Below.refl _ _⟩

set_option maxHeartbeats 400000 in
theorem lawA_near (f : ByteArray) (h : f.size ≤ 65536) (m : Int) (w : World) (hm : w.cell? ⟨0, 0, none⟩ = some (.int .i64 m)) :
    Calls Try.prog 3 #[.string f] w fun e w' => e = .returned (.bool true) ∧ Below w.heap.size w w' := by
  have HM := hide hm
  clear hm
  have d1 : decide (65536 < (f.size : Int)) = false := decide_eq_false (by omega)
  go_enter Try.func3, Try.ntmps3
  go_wp2_with (first
    | (go_at_call 6; refine (bytes1_yes f _ (by omega)).mono ?_; rintro e w' ⟨rfl, rfl⟩)
    | (go_at_call 7; refine (zz_any f (by omega) m _ HM.out).mono ?_; rintro e w1 ⟨⟨r, hr, rfl⟩, hb1⟩; have HR := hide hr; clear hr)
    | (go_at_call 8; refine (is_yes r f (by omega) HR.out _).mono ?_; rintro e w2 ⟨rfl, hb2⟩))
  go_ret
  exact ⟨rfl, hb1.trans (hb2.mono hb1.size)⟩

theorem lawA (f : ByteArray) (_h0 : f.size ≤ maxLen) (m : Int) (w : World) (hm : w.cell? ⟨0, 0, none⟩ = some (.int .i64 m)) :
    Calls Try.prog 3 #[.string f] w fun e w' => e = .returned (.bool true) ∧ Below w.heap.size w w' := by
  by_cases h : f.size ≤ 1048576
  · by_cases hb : 65536 < f.size
    · exact lawA_big f h hb w
    · exact lawA_near f (by omega) m w hm
  · exact lawA_far f (by omega) w

end Go.Proofs.Qxb6612627a
