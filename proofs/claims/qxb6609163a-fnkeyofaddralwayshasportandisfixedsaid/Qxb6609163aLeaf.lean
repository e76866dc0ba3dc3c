/-
  Seat b6609163a: the walks of the leaves: zzBytes, zzLastColon, zzAllDigits, zzEndsWithPort, zzHasSuffix, zzDefaultPort.
-/
import Derived.Test.Qxb6609163aRows
import Derived.WalkKit
import Derived.WalkSpells
import Derived.WalkSmall
import Derived.Lib.LastIndexByte
import Derived.Deep.QuietTactic
import Derived.BigQuiet
namespace Go.Proofs.Qxb6609163a
open Go.RowKit

theorem data_at (s : ByteArray) (k : Nat) (h : k < s.size) : s.data[k]! = s[k] := by
  have h' : k < s.data.size := h
  rw [getElem!_pos s.data k h']; rfl

theorem ret_bool {a b : Bool} (h : a = b) : Ending.returned (.bool a) = .returned (.bool b) := by rw [h]

def isD (c : UInt8) : Bool := decide (48 ≤ (c.toNat : Int)) && decide ((c.toNat : Int) ≤ 57)
/-- the first k bytes are digits -/
def digTo (s : ByteArray) : Nat → Bool
  | 0 => true
  | k + 1 => isD (s.data[k]!) && digTo s k
def digB (s : ByteArray) : Bool := decide (0 < s.size) && digTo s s.size

theorem digTo_false (s : ByteArray) (j : Nat) : ∀ k, j < k → isD (s.data[j]!) = false → digTo s k = false
  | 0, h, _ => absurd h (Nat.not_lt_zero _)
  | k + 1, h, hd => by
    unfold digTo
    by_cases e : j = k
    · subst e; rw [hd]; rfl
    · rw [digTo_false s j k (by omega) hd, Bool.and_false]

set_option maxHeartbeats 400000 in
theorem lastColon_any (s : ByteArray) (w : World) (hs : s.size ≤ 4194304) :
    Calls Try.prog 10 #[.string s] w fun e w' => e = .returned (.int .i64 (Lib.lastIdx s 58 s.size)) ∧ w' = w := by
  go_enter Try.func10, Try.ntmps10
  go_wp2
  go_loop [3, 4] (fun l i => ∃ k : Nat, k ≤ s.size ∧ i = .int .i64 k ∧ l = .int .i64 (Lib.lastIdx s 58 k)) (fun _ i => s.size - (intOf i).toNat)
  case atStart => exact ⟨0, Nat.zero_le _, rfl, rfl⟩
  case round =>
    obtain ⟨k, hk, rfl, rfl⟩ := hrel
    by_cases hlt : k < s.size
    · have hd := data_at s k hlt
      have H : Hid (s.data[k]! = s[k]) := hd
      clear hd
      by_cases hc : ((s[k].toNat : Int) == 58) = true
      · go_wp2
        go_round
        case rel => exact ⟨k + 1, by omega, by go_num, by rw [Lib.lastIdx_hit s 58 k (by rw [H.out]; simpa using hc)]⟩
        case measure => simp [intOf]; omega
      · have hc' : ((s[k].toNat : Int) == 58) = false := by simpa using hc
        clear hc
        go_wp2
        go_round
        case rel => exact ⟨k + 1, by omega, by go_num, by rw [Lib.lastIdx_miss s 58 k (by rw [H.out]; simpa using hc')]⟩
        case measure => simp [intOf]; omega
    · have e : k = s.size := by omega
      subst e
      go_wp2
      go_ret
      exact ⟨rfl, rfl⟩

set_option maxHeartbeats 400000 in
theorem allDigits_any (s : ByteArray) (w : World) (hs : s.size ≤ 4194304) :
    Calls Try.prog 11 #[.string s] w fun e w' => e = .returned (.bool (digB s)) ∧ w' = w := by
  by_cases h0 : s.size = 0
  · have hf : digB s = false := by simp [digB, h0]
    have H : Hid (digB s = false) := hf
    clear hf
    have hz : ((s.size : Int) == 0) = true := by simp [h0]
    clear h0
    go_enter Try.func11, Try.ntmps11
    go_wp2
    go_ret
    exact ⟨ret_bool H.out.symm, rfl⟩
  · have hz : ((s.size : Int) == 0) = false := by rw [beq_eq_false_iff_ne]; omega
    have Hp : Hid (decide (0 < s.size) = true) := by show decide (0 < s.size) = true; simp; omega
    clear h0
    go_enter Try.func11, Try.ntmps11
    go_wp2
    go_loop [3] (fun i => ∃ k : Nat, k ≤ s.size ∧ i = .int .i64 k ∧ Hid (digTo s k = true)) (fun i => s.size - (intOf i).toNat)
    case atStart => exact ⟨0, Nat.zero_le _, rfl, rfl⟩
    case round =>
      obtain ⟨k, hk, rfl, HK⟩ := hrel
      by_cases hlt : k < s.size
      · have H : Hid (s.data[k]! = s[k]) := data_at s k hlt
        by_cases ha : 48 ≤ (s[k].toNat : Int)
        · by_cases hb : (s[k].toNat : Int) ≤ 57
          · go_wp2
            go_round
            case rel => exact ⟨k + 1, by omega, by go_num, by show digTo s (k + 1) = true; unfold digTo; rw [HK.out, H.out, Bool.and_true]; simp only [isD, Bool.and_eq_true, decide_eq_true_eq]; exact ⟨ha, hb⟩⟩
            case measure => simp [intOf]; omega
          · go_wp2
            go_ret
            exact ⟨ret_bool (by rw [digB, digTo_false s k s.size hlt (by rw [H.out]; simp only [isD, Bool.and_eq_false_iff, decide_eq_false_iff_not]; omega), Bool.and_false]), rfl⟩
        · go_wp2
          go_ret
          exact ⟨ret_bool (by rw [digB, digTo_false s k s.size hlt (by rw [H.out]; simp only [isD, Bool.and_eq_false_iff, decide_eq_false_iff_not]; omega), Bool.and_false]), rfl⟩
      · have e : k = s.size := by omega
        subst e
        go_wp2
        go_ret
        exact ⟨ret_bool (by rw [digB, HK.out, Hp.out]; rfl), rfl⟩

def endsB (s : ByteArray) : Bool := decide (0 ≤ Lib.lastIdx s 58 s.size) && digB (s.extract (Lib.lastIdx s 58 s.size + 1).toNat s.size)

set_option maxHeartbeats 400000 in
theorem endsWithPort_any (s : ByteArray) (w : World) (hs : s.size ≤ 4194304) :
    Calls Try.prog 6 #[.string s] w fun e w' => e = .returned (.bool (endsB s)) ∧ w' = w := by
  rcases Lib.lastIdx_spec s 58 s.size with ⟨e, hn⟩ | ⟨i, hi, e, hc, hn⟩
  · have H : Hid (endsB s = false) := by show endsB s = false; simp [endsB, e]
    clear hn
    go_enter Try.func6, Try.ntmps6
    go_wp2_with (go_at_call 10; refine (lastColon_any _ _ hs).mono ?_; rintro e w' ⟨rfl, rfl⟩)
    go_ret
    exact ⟨ret_bool H.out.symm, rfl⟩
  · have H : Hid (endsB s = digB (s.extract (i + 1) s.size)) := by
      show endsB s = _
      have e2 : ((i : Int) + 1).toNat = i + 1 := by omega
      simp [endsB, e, e2]
    clear hn hc
    go_enter Try.func6, Try.ntmps6
    go_wp2_with (first
      | (go_at_call 10; refine (lastColon_any _ _ hs).mono ?_; rintro e w' ⟨rfl, rfl⟩)
      | (go_at_call 11; refine (allDigits_any _ _ (by simp; omega)).mono ?_; rintro e w' ⟨rfl, rfl⟩))
    go_ret
    exact ⟨ret_bool H.out.symm, rfl⟩

set_option maxHeartbeats 400000 in
theorem defaultPort_yes (s : ByteArray) (w : World) (h : (s.toList == [104, 116, 116, 112, 115]) = true) :
    Calls Try.prog 8 #[.string s] w fun e w' => e = .returned (.string ⟨#[52, 52, 51]⟩) ∧ w' = w := by
  go_enter Try.func8, Try.ntmps8
  go_wp2
  go_ret
  exact ⟨rfl, rfl⟩

set_option maxHeartbeats 400000 in
theorem defaultPort_no (s : ByteArray) (w : World) (h : (s.toList == [104, 116, 116, 112, 115]) = false) :
    Calls Try.prog 8 #[.string s] w fun e w' => e = .returned (.string ⟨#[56, 48]⟩) ∧ w' = w := by
  go_enter Try.func8, Try.ntmps8
  go_wp2
  go_ret
  exact ⟨rfl, rfl⟩

set_option maxHeartbeats 400000 in
theorem bytes_yes (s t : ByteArray) (w : World) (h : s.size + t.size ≤ 1048576) :
    Calls Try.prog 4 #[.string s, .string t] w fun e w' => e = .returned (.bool true) ∧ w' = w := by
  go_enter Try.func4, Try.ntmps4
  go_wp2
  go_ret
  exact ⟨rfl, rfl⟩

set_option maxHeartbeats 400000 in
theorem bytes_no (s t : ByteArray) (w : World) (hs : s.size ≤ maxLen) (ht : t.size ≤ maxLen) (h : 1048576 < s.size + t.size) :
    Calls Try.prog 4 #[.string s, .string t] w fun e w' => e = .returned (.bool false) ∧ w' = w := by
  unfold maxLen at hs ht
  by_cases h1 : 1048576 < (s.size : Int)
  · go_enter Try.func4, Try.ntmps4
    go_wp2
    go_ret
    exact ⟨rfl, rfl⟩
  · by_cases h2 : 1048576 < (t.size : Int)
    · go_enter Try.func4, Try.ntmps4
      go_wp2
      go_ret
      exact ⟨rfl, rfl⟩
    · go_enter Try.func4, Try.ntmps4
      go_wp2
      go_ret
      exact ⟨rfl, rfl⟩

set_option maxHeartbeats 400000 in
theorem hasSuffix_yes (s t : ByteArray) (o : Nat) (w : World) (hs : s.size ≤ 4194304) (ht : o + t.size = s.size) (heq : Hid (∀ k, k < t.size → s.data[o + k]! = t.data[k]!)) :
    Calls Try.prog 7 #[.string s, .string t] w fun e w' => e = .returned (.bool true) ∧ Below w.heap.size w w' := by
  have e : (s.size : Int) - (t.size : Int) = (o : Int) := by omega
  have h1 : t.size ≤ s.size := by omega
  have h0 : decide (s.size < t.size) = false := by simp; omega
  have HT : Hid (o + t.size = s.size) := ht
  clear ht
  go_enter Try.func7, Try.ntmps7
  go_wp2
  go_loopw [6] (fun i w' => ∃ k : Nat, k ≤ t.size ∧ i = .int .i64 k ∧ Below w.heap.size w w') (fun i _ => t.size - (intOf i).toNat)
  case atStart => exact ⟨0, Nat.zero_le _, rfl, Below.refl _ _⟩
  case round =>
    obtain ⟨k, hk, rfl, hb⟩ := hrel
    by_cases hlt : k < t.size
    · have h2 : o + k < s.size := by have := HT.out; omega
      have h3 : (o : Int) + (k : Int) < (s.size : Int) := by omega
      have h4 : 0 ≤ (o : Int) + (k : Int) := by omega
      have h5 : IntKind.i64.wrap ((o : Int) + (k : Int)) = (o : Int) + (k : Int) := IntWalk.i64_in _ (by omega)
      go_wp2
      go_quiet (fail)
      have hbn : ((s[o + k].toNat : Int) != (t[k].toNat : Int)) = false := by
        have := heq.out k hlt
        rw [data_at s (o + k) h2, data_at t k hlt] at this
        rw [this]; simp
      go_wp2
      go_roundw
      case rel => exact ⟨k + 1, by omega, by go_num, below_drewN hb _⟩
      case measure => simp [intOf]; omega
    · go_wp2
      go_ret
      exact ⟨rfl, hb⟩

end Go.Proofs.Qxb6609163a
