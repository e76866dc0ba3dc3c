/-
  Seat b6609418a: zzSameName, expand, ZZExpand.
-/
import Derived.Test.Qxb6609418aLeaf
import Derived.Test.Qxb6609418aShelf
namespace Go.Proofs.Qxb6609418a
open Go.RowKit

set_option maxHeartbeats 400000 in
theorem same_any (s : ByteArray) (w : World) :
    Calls Try.prog 9 #[.string s] w fun e w' => e = .returned (.string s) ∧ w' = w := by
  go_enter Try.func9, Try.ntmps9
  go_wp2
  go_ret
  exact ⟨rfl, rfl⟩

set_option maxHeartbeats 400000 in
theorem expand_short (s : ByteArray) (w : World) (hp : Lib.hasPrefix s.data.toList [36, 123] = true) (hi : Lib.indexByte s.data.toList 125 = 2) :
    Calls Try.prog 8 #[.string s, .func (.func 9) #[] #[]] w fun e w' => e = .returned (.tuple #[.string ⟨#[36]⟩, .int .i64 1]) ∧ w' = w := by
  go_enter Try.func8, Try.ntmps8
  go_wp2_with (first
    | (go_at_call 10; refine (Try.strings_HasPrefix _ _ _).mono ?_; rintro e w' ⟨rfl, rfl⟩)
    | (go_at_call 11; refine (Try.strings_IndexByte _ _ _).mono ?_; rintro e w' ⟨rfl, rfl⟩))
  go_ret2
  exact ⟨rfl, rfl⟩

set_option maxHeartbeats 400000 in
theorem expand_bad (s : ByteArray) (k n : Nat) (w : World) (hs : s.size ≤ 4194304) (hp : Lib.hasPrefix s.data.toList [36, 123] = true) (hi : Lib.indexByte s.data.toList 125 = (k : Int)) (hk : 2 < k) (hks : k < s.size) (hn : n < k - 2)
    (hv : Hid (∀ w, Calls Try.prog 12 #[.string (s.extract 2 k)] w fun e w' => e = .returned (.int .i64 n) ∧ w' = w)) :
    Calls Try.prog 8 #[.string s, .func (.func 9) #[] #[]] w fun e w' => e = .returned (.tuple #[.string ⟨#[36]⟩, .int .i64 1]) ∧ w' = w := by
  have hne : ((n : Int) == (k : Int) - 2) = false := by rw [beq_eq_false_iff_ne]; omega
  go_enter Try.func8, Try.ntmps8
  go_wp2_with (first
    | (go_at_call 10; refine (Try.strings_HasPrefix _ _ _).mono ?_; rintro e w' ⟨rfl, rfl⟩)
    | (go_at_call 11; refine (Try.strings_IndexByte _ _ _).mono ?_; rintro e w' ⟨rfl, rfl⟩)
    | (go_at_call 12; refine (hv.out _).mono ?_; rintro e w' ⟨rfl, rfl⟩))
  go_ret2
  exact ⟨rfl, rfl⟩

set_option maxHeartbeats 400000 in
theorem expand_good (s : ByteArray) (k n : Nat) (w : World) (hs : s.size ≤ 4194304) (hp : Lib.hasPrefix s.data.toList [36, 123] = true) (hi : Lib.indexByte s.data.toList 125 = (k : Int)) (hk : 2 < k) (hks : k < s.size) (hn : n = k - 2)
    (hv : Hid (∀ w, Calls Try.prog 12 #[.string (s.extract 2 k)] w fun e w' => e = .returned (.int .i64 n) ∧ w' = w)) :
    Calls Try.prog 8 #[.string s, .func (.func 9) #[] #[]] w fun e w' => e = .returned (.tuple #[.string (s.extract 2 k), .int .i64 (k + 1)]) ∧ w' = w := by
  have hne : ((n : Int) == (k : Int) - 2) = true := by rw [beq_iff_eq]; omega
  clear hn
  go_enter Try.func8, Try.ntmps8
  go_wp2_with (first
    | (go_at_call 10; refine (Try.strings_HasPrefix _ _ _).mono ?_; rintro e w' ⟨rfl, rfl⟩)
    | (go_at_call 11; refine (Try.strings_IndexByte _ _ _).mono ?_; rintro e w' ⟨rfl, rfl⟩)
    | (go_at_call 12; refine (hv.out _).mono ?_; rintro e w' ⟨rfl, rfl⟩)
    | (go_at_call 9; refine (same_any _ _).mono ?_; rintro e w' ⟨rfl, rfl⟩))
  go_ret2
  exact ⟨rfl, rfl⟩

set_option maxHeartbeats 400000 in
theorem expand_plain (s : ByteArray) (n : Nat) (w : World) (hs : s.size ≤ 4194304) (hp : Lib.hasPrefix s.data.toList [36, 123] = false) (hn : 0 < n) (hns : n < s.size)
    (hv : Hid (∀ w, Calls Try.prog 12 #[.string (s.extract 1 s.size)] w fun e w' => e = .returned (.int .i64 n) ∧ w' = w)) :
    Calls Try.prog 8 #[.string s, .func (.func 9) #[] #[]] w fun e w' => e = .returned (.tuple #[.string (s.extract 1 (1 + n)), .int .i64 (1 + n)]) ∧ w' = w := by
  go_enter Try.func8, Try.ntmps8
  go_wp2_with (first
    | (go_at_call 10; refine (Try.strings_HasPrefix _ _ _).mono ?_; rintro e w' ⟨rfl, rfl⟩)
    | (go_at_call 12; refine (hv.out _).mono ?_; rintro e w' ⟨rfl, rfl⟩)
    | (go_at_call 9; refine (same_any _ _).mono ?_; rintro e w' ⟨rfl, rfl⟩))
  go_ret2
  exact ⟨rfl, rfl⟩

theorem zzexpand_of (s r : ByteArray) (n : Int) (w : World)
    (h : Hid (∀ w, Calls Try.prog 8 #[.string s, .func (.func 9) #[] #[]] w fun e w' => e = .returned (.tuple #[.string r, .int .i64 n]) ∧ w' = w)) :
    Calls Try.prog 6 #[.string s] w fun e w' => e = .returned (.tuple #[.string r, .int .i64 n]) ∧ w' = w := by
  go_enter Try.func6, Try.ntmps6
  go_wp2_with (go_at_call 8; refine (h.out _).mono ?_; rintro e w' ⟨rfl, rfl⟩)
  go_ret2
  exact ⟨rfl, rfl⟩

end Go.Proofs.Qxb6609418a
