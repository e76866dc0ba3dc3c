/-
  Seat b6612627a: the walk of the law FnOutermostUnmovedByDeeperElements.
-/
import Derived.Test.Qxb6612627aIs
namespace Go.Proofs.Qxb6612627a
open Go.RowKit

set_option maxHeartbeats 400000 in
theorem lawB_far (f g : ByteArray) (h0 : f.size ≤ maxLen) (h1 : g.size ≤ maxLen) (h : 1048576 < f.size + g.size) (w : World) :
    Calls Try.prog 4 #[.string f, .string g] w fun e w' => e = .returned (.bool true) ∧ Below w.heap.size w w' := by
  go_enter Try.func4, Try.ntmps4
  go_wp2_with (go_at_call 9; refine (bytes2_no f g _ h0 h1 h).mono ?_; rintro e w' ⟨rfl, rfl⟩)
  go_ret
  exact ⟨rfl, Below.refl _ _⟩

set_option maxHeartbeats 400000 in
theorem lawB_big (f g : ByteArray) (h : f.size + g.size ≤ 1048576) (hb : 65536 < f.size ∨ 65536 < g.size) (w : World) :
    Calls Try.prog 4 #[.string f, .string g] w fun e w' => e = .returned (.bool true) ∧ Below w.heap.size w w' := by
  by_cases h1 : 65536 < f.size
  · have d1 : decide (65536 < (f.size : Int)) = true := decide_eq_true (by omega)
    go_enter Try.func4, Try.ntmps4
    go_wp2_with (go_at_call 9; refine (bytes2_yes f g _ h).mono ?_; rintro e w' ⟨rfl, rfl⟩)
    go_ret
    exact ⟨rfl, Below.refl _ _⟩
  · have d1 : decide (65536 < (f.size : Int)) = false := decide_eq_false (by omega)
    have h2 : 65536 < g.size := by omega
    have d2 : decide (65536 < (g.size : Int)) = true := decide_eq_true (by omega)
    go_enter Try.func4, Try.ntmps4
    go_wp2_with (go_at_call 9; refine (bytes2_yes f g _ h).mono ?_; rintro e w' ⟨rfl, rfl⟩)
    go_ret
    exact ⟨rfl, Below.refl _ _⟩

set_option maxHeartbeats 400000 in
theorem lawB_open (f g : ByteArray) (h0 : f.size ≤ 65536) (h1 : g.size ≤ 65536) (hc : hasB f.data.toList = false) (w : World) :
    Calls Try.prog 4 #[.string f, .string g] w fun e w' => e = .returned (.bool true) ∧ Below w.heap.size w w' := by
  have HC := hide hc
  clear hc
  have d1 : decide (65536 < (f.size : Int)) = false := decide_eq_false (by omega)
  have d2 : decide (65536 < (g.size : Int)) = false := decide_eq_false (by omega)
  go_enter Try.func4, Try.ntmps4
  go_wp2_with (first
    | (go_at_call 9; refine (bytes2_yes f g _ (by omega)).mono ?_; rintro e w' ⟨rfl, rfl⟩)
    | (go_at_call 10; refine (close_is f false (by omega) HC.out _).mono ?_; rintro e w' ⟨rfl, rfl⟩))
  go_ret
  exact ⟨rfl, Below.refl _ _⟩

theorem same_bytes {a b : ByteArray} {l : List UInt8} (ha : a.data.toList = l) (hb : b.data.toList = l) : a = b := by
  apply ByteArray.ext
  apply Array.ext'
  rw [ha, hb]

set_option maxHeartbeats 400000 in
theorem lawB_near (f g : ByteArray) (h0 : f.size ≤ 65536) (h1 : g.size ≤ 65536) (hc : hasB f.data.toList = true) (m : Int) (w : World) (hm : w.cell? ⟨0, 0, none⟩ = some (.int .i64 m)) :
    Calls Try.prog 4 #[.string f, .string g] w fun e w' => e = .returned (.bool true) ∧ Below w.heap.size w w' := by
  have hpos := heap_pos hm
  have HM := hide hm
  have HC := hide hc
  have HH : Hid ((hd (f ++ g).data.toList).drop 1 = (hd f.data.toList).drop 1) := by
    show _ = _
    have e : (f ++ g).data.toList = f.data.toList ++ g.data.toList := by simp [ByteArray.data_append]
    rw [e, hd_app _ _ (of_decide_eq_true hc)]
  have hz : (f ++ g).size ≤ 4194304 := by rw [ByteArray.size_append]; omega
  clear hm hc
  have d1 : decide (65536 < (f.size : Int)) = false := decide_eq_false (by omega)
  have d2 : decide (65536 < (g.size : Int)) = false := decide_eq_false (by omega)
  go_enter Try.func4, Try.ntmps4
  go_wp2_with (first
    | (go_at_call 9; refine (bytes2_yes f g _ (by omega)).mono ?_; rintro e w' ⟨rfl, rfl⟩)
    | (go_at_call 10; refine (close_is f true (by omega) HC.out _).mono ?_; rintro e w' ⟨rfl, rfl⟩))
  refine (zz_any (f ++ g) hz m _ HM.out).mono ?_
  rintro e w1 ⟨⟨r1, hr1, rfl⟩, hb1⟩
  rw [HH.out] at hr1
  have HR1 := hide hr1
  have HM1 := hide ((hb1.cell (p := ⟨0, 0, none⟩) hpos).trans HM.out)
  clear hr1
  go_wp2_with fail
  refine (zz_any f (by omega) m _ HM1.out).mono ?_
  rintro e w2 ⟨⟨r2, hr2, rfl⟩, hb2⟩
  have er := same_bytes HR1.out hr2
  subst er
  clear hr2
  go_wp2_with (go_at_call 8; refine (is_yes r1 f (by omega) HR1.out _).mono ?_; rintro e w3 ⟨rfl, hb3⟩)
  go_ret
  exact ⟨by simp, (hb1.trans (hb2.mono hb1.size)).trans (hb3.mono (Nat.le_trans hb1.size hb2.size))⟩

theorem lawB (f g : ByteArray) (h0 : f.size ≤ maxLen) (h1 : g.size ≤ maxLen) (m : Int) (w : World) (hm : w.cell? ⟨0, 0, none⟩ = some (.int .i64 m)) :
    Calls Try.prog 4 #[.string f, .string g] w fun e w' => e = .returned (.bool true) ∧ Below w.heap.size w w' := by
  by_cases h : f.size + g.size ≤ 1048576
  · by_cases hb : 65536 < f.size ∨ 65536 < g.size
    · exact lawB_big f g h hb w
    · cases hc : hasB f.data.toList with
      | true => exact lawB_near f g (by omega) (by omega) hc m w hm
      | false => exact lawB_open f g (by omega) (by omega) hc w
  · exact lawB_far f g h0 h1 (by omega) w

end Go.Proofs.Qxb6612627a
