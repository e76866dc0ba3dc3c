/-
  Seat b6609163a: the law's walk.
-/
import Derived.Test.Qxb6609163aPlain
namespace Go.Proofs.Qxb6609163a
open Go.RowKit

set_option maxHeartbeats 400000 in
theorem law_far (a s : ByteArray) (w0 : a.size ≤ maxLen) (w1 : s.size ≤ maxLen) (h : 1048576 < a.size + s.size) (w : World) :
    Calls Try.prog 3 #[.string a, .string s] w fun e w' => e = .returned (.bool true) ∧ Below w.heap.size w w' := by
  go_enter Try.func3, Try.ntmps3
  go_wp2_with (go_at_call 4; refine (bytes_no a s _ w0 w1 h).mono ?_; rintro e w' ⟨rfl, rfl⟩)
  go_ret
  exact ⟨rfl, Below.refl _ _⟩

theorem ends_yes (s : ByteArray) (w : World) (hs : s.size ≤ 4194304) (he : endsB s = true) :
    Calls Try.prog 6 #[.string s] w fun e w' => e = .returned (.bool true) ∧ w' = w := by
  rw [← he]; exact endsWithPort_any s w hs

theorem ends_no (s : ByteArray) (w : World) (hs : s.size ≤ 4194304) (he : endsB s = false) :
    Calls Try.prog 6 #[.string s] w fun e w' => e = .returned (.bool false) ∧ w' = w := by
  rw [← he]; exact endsWithPort_any s w hs

set_option maxHeartbeats 400000 in
theorem law_yes (a s : ByteArray) (q : Bool) (h : a.size + s.size ≤ 1048576) (hq : (a.toList == [104, 116, 116, 112, 115]) = q) (he : endsB s = true) (w : World) :
    Calls Try.prog 3 #[.string a, .string s] w fun e w' => e = .returned (.bool true) ∧ Below w.heap.size w w' := by
  have HE := hide he
  clear he
  have h1 : decide (1048576 < (a.size : Int)) = false := by simp; omega
  have h2 : decide (1048576 < (s.size : Int)) = false := by simp; omega
  have h3 : decide (1048576 < (a.size : Int) + (s.size : Int)) = false := by simp; omega
  go_enter Try.func3, Try.ntmps3
  go_wp2_with (go_at_call 4; refine (bytes_yes a s _ h).mono ?_; rintro e w' ⟨rfl, rfl⟩)
  refine (zzkey_any a s q _ (by omega) hq).mono ?_
  rintro e wa ⟨⟨x, hx, rfl⟩, hba⟩
  have ex := key_yes hx HE.out
  subst ex
  have HX := hide hx
  clear hx
  go_wp2_with (go_at_call 6; refine (ends_yes x _ (by omega) HE.out).mono ?_; rintro e w' ⟨rfl, rfl⟩)
  refine (zzkey_any a x q _ (by omega) hq).mono ?_
  rintro e wb ⟨⟨y, hy, rfl⟩, hbb⟩
  have ey := key_yes hy HE.out
  clear hy
  subst ey
  go_wp2
  go_ret
  exact ⟨by simp, hba.trans (hbb.mono hba.size)⟩

set_option maxHeartbeats 400000 in
theorem law_no (a s : ByteArray) (q : Bool) (h : a.size + s.size ≤ 1048576) (hq : (a.toList == [104, 116, 116, 112, 115]) = q) (he : endsB s = false) (w : World) :
    Calls Try.prog 3 #[.string a, .string s] w fun e w' => e = .returned (.bool true) ∧ Below w.heap.size w w' := by
  have HE := hide he
  clear he
  have h1 : decide (1048576 < (a.size : Int)) = false := by simp; omega
  have h2 : decide (1048576 < (s.size : Int)) = false := by simp; omega
  have h3 : decide (1048576 < (a.size : Int) + (s.size : Int)) = false := by simp; omega
  cases q
  all_goals
    go_enter Try.func3, Try.ntmps3
    go_wp2_with (go_at_call 4; refine (bytes_yes a s _ h).mono ?_; rintro e w' ⟨rfl, rfl⟩)
    refine (zzkey_any a s _ _ (by omega) hq).mono ?_
    rintro e wa ⟨⟨x, hx, rfl⟩, hba⟩
    have hxs := key_size hx
    have HY := hide (ends_key hx)
    have HJ := hide (key_no hx HE.out)
    have HX := hide hx
    clear hx
    go_wp2_with fail
    refine (ends_yes x _ (by omega) HY.out).mono ?_
    rintro e w' ⟨rfl, rfl⟩
    go_wp2_with fail
    refine (ends_no s _ (by omega) HE.out).mono ?_
    rintro e w' ⟨rfl, rfl⟩
    go_wp2_with (first
      | (go_at_call 8; refine (defaultPort_no a _ hq).mono ?_; rintro e w' ⟨rfl, rfl⟩)
      | (go_at_call 8; refine (defaultPort_yes a _ hq).mono ?_; rintro e w' ⟨rfl, rfl⟩))
    obtain ⟨o, ho, hk⟩ := suffix_of HJ.out
    refine (hasSuffix_yes x _ o _ (by omega) ho hk).mono ?_
    clear ho hk
    rintro e wc ⟨rfl, hbc⟩
    go_wp2_with fail
    refine (zzkey_any a x _ _ (by omega) hq).mono ?_
    rintro e wb ⟨⟨y, hy, rfl⟩, hbb⟩
    have ey := key_yes hy HY.out
    clear hy
    subst ey
    go_wp2
    go_ret
    exact ⟨by simp, hba.trans ((hbc.mono hba.size).trans (hbb.mono (Nat.le_trans hba.size hbc.size)))⟩

theorem law_walk (a s : ByteArray) (w0 : a.size ≤ maxLen) (w1 : s.size ≤ maxLen) (w : World) :
    Calls Try.prog 3 #[.string a, .string s] w fun e w' => e = .returned (.bool true) ∧ Below w.heap.size w w' := by
  by_cases h : a.size + s.size ≤ 1048576
  · cases he : endsB s with
    | true => exact law_yes a s _ h rfl he w
    | false => exact law_no a s _ h rfl he w
  · exact law_far a s w0 w1 (by omega) w

end Go.Proofs.Qxb6609163a
