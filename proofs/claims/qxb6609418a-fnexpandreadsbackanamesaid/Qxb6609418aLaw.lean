/-
  Seat b6609418a: the law's walk.
-/
import Derived.Test.Qxb6609418aPlain
namespace Go.Proofs.Qxb6609418a
open Go.RowKit

theorem zz_bad (name rest : ByteArray) (w : World) (h : name.size + rest.size ≤ 1048576) (hn : isNameB name = false) (hb : ∀ x ∈ name.data.toList, x ≠ 125) :
    Calls Try.prog 6 #[.string (⟨#[36, 123]⟩ ++ name ++ ⟨#[125]⟩ ++ rest)] w fun e w' => e = .returned (.tuple #[.string ⟨#[36]⟩, .int .i64 1]) ∧ w' = w := by
  refine zzexpand_of (braced name rest) _ _ w ?_
  intro w
  have hi := braced_index name rest hb
  have hp := braced_prefix name rest
  have hz := braced_size name rest
  by_cases h0 : name.size = 0
  · rw [h0] at hi
    exact expand_short _ w hp hi
  · have ht : nameTo name name.size = false := by
      rw [isNameB, Bool.and_eq_false_iff] at hn
      rcases hn with hn | hn
      · exact absurd (of_decide_eq_false hn) (by omega)
      · exact hn
    rcases reach name name.size (Nat.le_refl _) with h1 | ⟨n, hnn, h1, h2⟩
    · rw [ht] at h1; cases h1
    · refine expand_bad _ (2 + name.size) n w (by omega) hp hi (by omega) (by omega) (by omega) ?_
      intro w
      rw [braced_cut]
      exact nameLen_is name n w (by omega) (by omega) h1 (fun _ => h2)

theorem zz_good (name rest : ByteArray) (w : World) (h : name.size + rest.size ≤ 1048576) (hn : isNameB name = true) :
    Calls Try.prog 6 #[.string (⟨#[36, 123]⟩ ++ name ++ ⟨#[125]⟩ ++ rest)] w fun e w' => e = .returned (.tuple #[.string name, .int .i64 ((name.size : Int) + 3)]) ∧ w' = w := by
  refine zzexpand_of (braced name rest) _ _ w ?_
  intro w
  simp only [isNameB, Bool.and_eq_true, decide_eq_true_eq] at hn
  obtain ⟨h0, ht⟩ := hn
  have hi := braced_index name rest (name_no_brace name ht)
  have hp := braced_prefix name rest
  have hz := braced_size name rest
  refine (expand_good _ (2 + name.size) name.size w (by omega) hp hi (by omega) (by omega) (by omega) ?_).mono ?_
  · intro w
    rw [braced_cut]
    exact nameLen_is name name.size w (by omega) (by omega) ht (fun h => by omega)
  · rintro e w' ⟨rfl, rfl⟩
    refine ⟨?_, rfl⟩
    rw [braced_cut]
    have e : (((2 + name.size : Nat) : Int) + 1) = (name.size : Int) + 3 := by omega
    rw [e]

theorem zz_plain (name rest : ByteArray) (w : World) (h : name.size + rest.size ≤ 1048576) (hn : isNameB name = true) (hr : 0 < rest.size → nbI false ((rest.data[0]!).toNat : Int) = false) :
    Calls Try.prog 6 #[.string (⟨#[36]⟩ ++ name ++ rest)] w fun e w' => e = .returned (.tuple #[.string name, .int .i64 ((name.size : Int) + 1)]) ∧ w' = w := by
  refine zzexpand_of (plain name rest) _ _ w ?_
  intro w
  simp only [isNameB, Bool.and_eq_true, decide_eq_true_eq] at hn
  obtain ⟨h0, ht⟩ := hn
  have hp := plain_prefix name rest h0 ht
  have hz := plain_size name rest
  refine (expand_plain _ name.size w (by omega) hp (by omega) (by omega) ?_).mono ?_
  · intro w
    rw [plain_tail]
    have hs : (name ++ rest).size = name.size + rest.size := ByteArray.size_append
    refine nameLen_is (name ++ rest) name.size w (by omega) (by omega) ?_ ?_
    · show nameTo _ _ = true
      rw [nameTo_left _ _ _ (Nat.le_refl _)]; exact ht
    · intro hlt
      have e : ((name.size : Int) == 0) = false := by rw [beq_eq_false_iff_ne]; omega
      rw [okAt, app_at_right, e]
      exact hr (by omega)
  · rintro e w' ⟨rfl, rfl⟩
    refine ⟨?_, rfl⟩
    rw [plain_cut]
    have e : (1 + (name.size : Int)) = (name.size : Int) + 1 := by omega
    rw [e]

theorem no_brace_step {a : ByteArray} {k : Nat} {c : UInt8} (h : ∀ j, j < k → a.data[j]! ≠ 125) (e : a.data[k]! = c) (hc : ((c.toNat : Int) == 125) = false) : ∀ j, j < k + 1 → a.data[j]! ≠ 125 := by
  intro j hj
  by_cases hjk : j = k
  · subst hjk
    rw [e]
    rintro rfl
    exact absurd hc (by decide)
  · exact h j (by omega)

theorem no_brace_all {a : ByteArray} (h : ∀ j, j < a.size → a.data[j]! ≠ 125) : ∀ x ∈ a.data.toList, x ≠ 125 := by
  intro x hx
  obtain ⟨j, hj, rfl⟩ := List.getElem_of_mem hx
  have hj' : j < a.size := hj
  have := h j hj'
  rw [data_at a j hj'] at this
  exact this

set_option maxHeartbeats 400000 in
theorem law_far (a s : ByteArray) (b : Bool) (w0 : a.size ≤ maxLen) (w1 : s.size ≤ maxLen) (h : 1048576 < a.size + s.size) (w : World) :
    Calls Try.prog 3 #[.string a, .string s, .bool b] w fun e w' => e = .returned (.bool true) ∧ w' = w := by
  go_enter Try.func3, Try.ntmps3
  go_wp2_with (go_at_call 4; refine (bytes_no a s b _ w0 w1 h).mono ?_; rintro e w' ⟨rfl, rfl⟩)
  go_ret
  exact ⟨rfl, rfl⟩

set_option maxHeartbeats 400000 in
theorem law_big (a s : ByteArray) (b : Bool) (h : a.size + s.size ≤ 1048576) (hb : 524288 < a.size ∨ 524288 < s.size) (w : World) :
    Calls Try.prog 3 #[.string a, .string s, .bool b] w fun e w' => e = .returned (.bool true) ∧ w' = w := by
  by_cases h1 : 524288 < a.size
  · have d1 : decide (524288 < (a.size : Int)) = true := decide_eq_true (by omega)
    go_enter Try.func3, Try.ntmps3
    go_wp2_with (go_at_call 4; refine (bytes_yes a s b _ h).mono ?_; rintro e w' ⟨rfl, rfl⟩)
    go_ret
    exact ⟨rfl, rfl⟩
  · have h2 : 524288 < s.size := by omega
    have d1 : decide (524288 < (a.size : Int)) = false := decide_eq_false (by omega)
    have d2 : decide (524288 < (s.size : Int)) = true := decide_eq_true (by omega)
    go_enter Try.func3, Try.ntmps3
    go_wp2_with (go_at_call 4; refine (bytes_yes a s b _ h).mono ?_; rintro e w' ⟨rfl, rfl⟩)
    go_ret
    exact ⟨rfl, rfl⟩

theorem isName_is (s : ByteArray) (b : Bool) (w : World) (hs : s.size ≤ 4194304) (hb : isNameB s = b) :
    Calls Try.prog 5 #[.string s] w fun e w' => e = .returned (.bool b) ∧ w' = w := by
  rw [← hb]; exact isName_any s w hs

set_option maxHeartbeats 400000 in
theorem law_good (a s : ByteArray) (h : a.size ≤ 524288) (h2 : s.size ≤ 524288) (hn : isNameB a = true) (w : World) :
    Calls Try.prog 3 #[.string a, .string s, .bool true] w fun e w' => e = .returned (.bool true) ∧ w' = w := by
  have HN := hide hn
  clear hn
  have d1 : decide (524288 < (a.size : Int)) = false := decide_eq_false (by omega)
  have d2 : decide (524288 < (s.size : Int)) = false := decide_eq_false (by omega)
  go_enter Try.func3, Try.ntmps3
  go_wp2_with (first
    | (go_at_call 4; refine (bytes_yes a s true _ (by omega)).mono ?_; rintro e w' ⟨rfl, rfl⟩)
    | (go_at_call 5; refine (isName_is a true _ (by omega) HN.out).mono ?_; rintro e w' ⟨rfl, rfl⟩)
    | (go_at_call 6; refine (zz_good a s _ (by omega) HN.out).mono ?_; rintro e w' ⟨rfl, rfl⟩))
  go_ret
  exact ⟨by simp, rfl⟩

set_option maxHeartbeats 400000 in
theorem law_plain_skip (a s : ByteArray) (h : a.size ≤ 524288) (h2 : s.size ≤ 524288) (hn : isNameB a = true) (h0 : 0 < s.size) (hr : nbI false (s[0].toNat : Int) = true) (w : World) :
    Calls Try.prog 3 #[.string a, .string s, .bool false] w fun e w' => e = .returned (.bool true) ∧ w' = w := by
  have HN := hide hn
  clear hn
  have d1 : decide (524288 < (a.size : Int)) = false := decide_eq_false (by omega)
  have d2 : decide (524288 < (s.size : Int)) = false := decide_eq_false (by omega)
  have d3 : decide (0 < (s.size : Int)) = true := decide_eq_true (by omega)
  go_enter Try.func3, Try.ntmps3
  go_wp2_with (first
    | (go_at_call 4; refine (bytes_yes a s false _ (by omega)).mono ?_; rintro e w' ⟨rfl, rfl⟩)
    | (go_at_call 5; refine (isName_is a true _ (by omega) HN.out).mono ?_; rintro e w' ⟨rfl, rfl⟩)
    | (go_at_call 7; refine (nameByte_any _ _ _).mono ?_; rintro e w' ⟨rfl, rfl⟩))
  go_ret
  exact ⟨rfl, rfl⟩

set_option maxHeartbeats 400000 in
theorem law_plain_end (a s : ByteArray) (h : a.size ≤ 524288) (hn : isNameB a = true) (h0 : s.size = 0) (w : World) :
    Calls Try.prog 3 #[.string a, .string s, .bool false] w fun e w' => e = .returned (.bool true) ∧ w' = w := by
  have HN := hide hn
  clear hn
  have d1 : decide (524288 < (a.size : Int)) = false := decide_eq_false (by omega)
  have d2 : decide (524288 < (s.size : Int)) = false := decide_eq_false (by omega)
  have d3 : decide (0 < (s.size : Int)) = false := decide_eq_false (by omega)
  have h2 : s.size ≤ 0 := by omega
  clear h0
  go_enter Try.func3, Try.ntmps3
  go_wp2_with (first
    | (go_at_call 4; refine (bytes_yes a s false _ (by omega)).mono ?_; rintro e w' ⟨rfl, rfl⟩)
    | (go_at_call 5; refine (isName_is a true _ (by omega) HN.out).mono ?_; rintro e w' ⟨rfl, rfl⟩)
    | (go_at_call 6; refine (zz_plain a s _ (by omega) HN.out (fun h => by omega)).mono ?_; rintro e w' ⟨rfl, rfl⟩))
  go_ret
  exact ⟨by simp, rfl⟩

set_option maxHeartbeats 400000 in
theorem law_plain_go (a s : ByteArray) (h : a.size ≤ 524288) (h2 : s.size ≤ 524288) (hn : isNameB a = true) (h0 : 0 < s.size) (hr : nbI false (s[0].toNat : Int) = false) (w : World) :
    Calls Try.prog 3 #[.string a, .string s, .bool false] w fun e w' => e = .returned (.bool true) ∧ w' = w := by
  have HN := hide hn
  clear hn
  have HR : Hid (0 < s.size → nbI false ((s.data[0]!).toNat : Int) = false) := fun h => by rw [data_at s 0 h]; exact hr
  have d1 : decide (524288 < (a.size : Int)) = false := decide_eq_false (by omega)
  have d2 : decide (524288 < (s.size : Int)) = false := decide_eq_false (by omega)
  have d3 : decide (0 < (s.size : Int)) = true := decide_eq_true (by omega)
  go_enter Try.func3, Try.ntmps3
  go_wp2_with (first
    | (go_at_call 4; refine (bytes_yes a s false _ (by omega)).mono ?_; rintro e w' ⟨rfl, rfl⟩)
    | (go_at_call 5; refine (isName_is a true _ (by omega) HN.out).mono ?_; rintro e w' ⟨rfl, rfl⟩)
    | (go_at_call 7; refine (nameByte_any _ _ _).mono ?_; rintro e w' ⟨rfl, rfl⟩)
    | (go_at_call 6; refine (zz_plain a s _ (by omega) HN.out HR.out).mono ?_; rintro e w' ⟨rfl, rfl⟩))
  go_ret
  exact ⟨by simp, rfl⟩

set_option maxHeartbeats 400000 in
theorem law_bad_plain (a s : ByteArray) (h : a.size ≤ 524288) (h2 : s.size ≤ 524288) (hn : isNameB a = false) (w : World) :
    Calls Try.prog 3 #[.string a, .string s, .bool false] w fun e w' => e = .returned (.bool true) ∧ w' = w := by
  have HN := hide hn
  clear hn
  have d1 : decide (524288 < (a.size : Int)) = false := decide_eq_false (by omega)
  have d2 : decide (524288 < (s.size : Int)) = false := decide_eq_false (by omega)
  go_enter Try.func3, Try.ntmps3
  go_wp2_with (first
    | (go_at_call 4; refine (bytes_yes a s false _ (by omega)).mono ?_; rintro e w' ⟨rfl, rfl⟩)
    | (go_at_call 5; refine (isName_is a false _ (by omega) HN.out).mono ?_; rintro e w' ⟨rfl, rfl⟩))
  go_ret
  exact ⟨rfl, rfl⟩

set_option maxHeartbeats 1000000 in
theorem law_bad (a s : ByteArray) (h : a.size ≤ 524288) (h2 : s.size ≤ 524288) (hn : isNameB a = false) (w : World) :
    Calls Try.prog 3 #[.string a, .string s, .bool true] w fun e w' => e = .returned (.bool true) ∧ w' = w := by
  have HN := hide hn
  clear hn
  have d1 : decide (524288 < (a.size : Int)) = false := decide_eq_false (by omega)
  have d2 : decide (524288 < (s.size : Int)) = false := decide_eq_false (by omega)
  go_enter Try.func3, Try.ntmps3
  go_wp2_with (first
    | (go_at_call 4; refine (bytes_yes a s true _ (by omega)).mono ?_; rintro e w' ⟨rfl, rfl⟩)
    | (go_at_call 5; refine (isName_is a false _ (by omega) HN.out).mono ?_; rintro e w' ⟨rfl, rfl⟩))
  go_loop [7] (fun i => ∃ k : Nat, k ≤ a.size ∧ i = .int .i64 k ∧ Hid (∀ j, j < k → a.data[j]! ≠ 125)) (fun i => a.size - (intOf i).toNat)
  case atStart => exact ⟨0, Nat.zero_le _, rfl, fun j h => absurd h (Nat.not_lt_zero _)⟩
  case round =>
    obtain ⟨k, hk, rfl, HK⟩ := hrel
    by_cases hlt : k < a.size
    · have H : Hid (a.data[k]! = a[k]) := data_at a k hlt
      by_cases hc : ((a[k].toNat : Int) == 125) = true
      · go_wp2
        go_ret
        exact ⟨rfl, rfl⟩
      · have hc' : ((a[k].toNat : Int) == 125) = false := by simpa using hc
        clear hc
        go_wp2
        go_round
        case rel => exact ⟨k + 1, by omega, by go_num, no_brace_step HK.out H.out hc'⟩
        case measure => simp [intOf]; omega
    · have e : k = a.size := by omega
      subst e
      have HB := hide (no_brace_all HK.out)
      clear HK
      go_wp2_with (go_at_call 6; refine (zz_bad a s _ (by omega) HN.out HB.out).mono ?_; rintro e w' ⟨rfl, rfl⟩)
      go_ret
      exact ⟨rfl, rfl⟩

theorem law_walk (a s : ByteArray) (b : Bool) (w0 : a.size ≤ maxLen) (w1 : s.size ≤ maxLen) (w : World) :
    Calls Try.prog 3 #[.string a, .string s, .bool b] w fun e w' => e = .returned (.bool true) ∧ w' = w := by
  by_cases h : a.size + s.size ≤ 1048576
  · by_cases hb : 524288 < a.size ∨ 524288 < s.size
    · exact law_big a s b h hb w
    · have h1 : a.size ≤ 524288 := by omega
      have h2 : s.size ≤ 524288 := by omega
      cases hn : isNameB a with
      | true =>
        cases b with
        | true => exact law_good a s h1 h2 hn w
        | false =>
          by_cases h0 : 0 < s.size
          · cases hr : nbI false (s[0].toNat : Int) with
            | true => exact law_plain_skip a s h1 h2 hn h0 hr w
            | false => exact law_plain_go a s h1 h2 hn h0 hr w
          · exact law_plain_end a s h1 hn (by omega) w
      | false =>
        cases b with
        | true => exact law_bad a s h1 h2 hn w
        | false => exact law_bad_plain a s h1 h2 hn w
  · exact law_far a s b w0 w1 (by omega) w

theorem law_below (a s : ByteArray) (b : Bool) (w0 : a.size ≤ maxLen) (w1 : s.size ≤ maxLen) (w : World) :
    Calls Try.prog 3 #[.string a, .string s, .bool b] w fun e w' => e = .returned (.bool true) ∧ Below w.heap.size w w' := by
  refine (law_walk a s b w0 w1 w).mono ?_
  rintro e w' ⟨rfl, rfl⟩
  exact ⟨rfl, Below.refl _ _⟩

end Go.Proofs.Qxb6609418a
