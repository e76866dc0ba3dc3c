/-
  Seat b6612275a: the law's walk.
-/
import Derived.Test.Qxb6612275aMain
namespace Go.Proofs.Qxb6612275a
open Go.RowKit

set_option maxRecDepth 100000 in
set_option maxHeartbeats 400000 in
theorem law_far (p c s : ByteArray) (h0 : p.size ≤ maxLen) (h1 : c.size ≤ maxLen) (h2 : s.size ≤ maxLen) (h : 1048576 < p.size + c.size + s.size) (w : World) :
    Calls Try.prog 4 #[.string p, .string c, .string s] w fun e w' => e = .returned (.bool true) ∧ Below w.heap.size w w' := by
  go_enter Try.func4, Try.ntmps4
  go_wp2_with (go_at_call 8; refine (bytes_no p c s _ h0 h1 h2 h).mono ?_; rintro e w' ⟨rfl, rfl⟩)
  go_ret
  exact ⟨rfl, Below.refl _ _⟩

set_option maxRecDepth 100000 in
set_option maxHeartbeats 400000 in
theorem law_big (p c s : ByteArray) (h : p.size + c.size + s.size ≤ 1048576) (hb : 262144 < p.size ∨ 262144 < c.size ∨ 262144 < s.size) (w : World) :
    Calls Try.prog 4 #[.string p, .string c, .string s] w fun e w' => e = .returned (.bool true) ∧ Below w.heap.size w w' := by
  by_cases h1 : 262144 < p.size
  · have d1 : decide (262144 < (p.size : Int)) = true := decide_eq_true (by omega)
    go_enter Try.func4, Try.ntmps4
    go_wp2_with (go_at_call 8; refine (bytes_yes p c s _ h).mono ?_; rintro e w' ⟨rfl, rfl⟩)
    go_ret
    exact ⟨rfl, Below.refl _ _⟩
  · have d1 : decide (262144 < (p.size : Int)) = false := decide_eq_false (by omega)
    by_cases h2 : 262144 < c.size
    · have d2 : decide (262144 < (c.size : Int)) = true := decide_eq_true (by omega)
      go_enter Try.func4, Try.ntmps4
      go_wp2_with (go_at_call 8; refine (bytes_yes p c s _ h).mono ?_; rintro e w' ⟨rfl, rfl⟩)
      go_ret
      exact ⟨rfl, Below.refl _ _⟩
    · have d2 : decide (262144 < (c.size : Int)) = false := decide_eq_false (by omega)
      have h3 : 262144 < s.size := by omega
      have d3 : decide (262144 < (s.size : Int)) = true := decide_eq_true (by omega)
      go_enter Try.func4, Try.ntmps4
      go_wp2_with (go_at_call 8; refine (bytes_yes p c s _ h).mono ?_; rintro e w' ⟨rfl, rfl⟩)
      go_ret
      exact ⟨rfl, Below.refl _ _⟩

set_option maxRecDepth 100000 in
set_option maxHeartbeats 400000 in
theorem law_skip (p c s : ByteArray) (h0 : p.size ≤ 262144) (h1 : c.size ≤ 262144) (h2 : s.size ≤ 262144) (hs : 0 < s.size) (hq : ((s[0].toNat : Int) == 34) = true) (w : World) :
    Calls Try.prog 4 #[.string p, .string c, .string s] w fun e w' => e = .returned (.bool true) ∧ Below w.heap.size w w' := by
  have d1 : decide (262144 < (p.size : Int)) = false := decide_eq_false (by omega)
  have d2 : decide (262144 < (c.size : Int)) = false := decide_eq_false (by omega)
  have d3 : decide (262144 < (s.size : Int)) = false := decide_eq_false (by omega)
  have d4 : decide (0 < (s.size : Int)) = true := decide_eq_true (by omega)
  go_enter Try.func4, Try.ntmps4
  go_wp2_with (go_at_call 8; refine (bytes_yes p c s _ (by omega)).mono ?_; rintro e w' ⟨rfl, rfl⟩)
  go_ret
  exact ⟨rfl, Below.refl _ _⟩

theorem law_walk (p c s : ByteArray) (h0 : p.size ≤ maxLen) (h1 : c.size ≤ maxLen) (h2 : s.size ≤ maxLen) (m : Int) (w : World) (hm : w.cell? ⟨0, 0, none⟩ = some (.int .i64 m)) :
    Calls Try.prog 4 #[.string p, .string c, .string s] w fun e w' => e = .returned (.bool true) ∧ Below w.heap.size w w' := by
  by_cases h : p.size + c.size + s.size ≤ 1048576
  · by_cases hb : 262144 < p.size ∨ 262144 < c.size ∨ 262144 < s.size
    · exact law_big p c s h hb w
    · have k0 : p.size ≤ 262144 := by omega
      have k1 : c.size ≤ 262144 := by omega
      have k2 : s.size ≤ 262144 := by omega
      by_cases hs : s.data.toList.head? = some 34
      · rw [List.head?_eq_getElem?] at hs
        obtain ⟨hz, e⟩ := List.getElem?_eq_some_iff.1 hs
        have e' : s[0] = 34 := e
        exact law_skip p c s k0 k1 k2 hz (by rw [e']; rfl) w
      · exact law_main p c s m k0 k1 k2 hs w hm
  · exact law_far p c s h0 h1 h2 (by omega) w

end Go.Proofs.Qxb6612275a
