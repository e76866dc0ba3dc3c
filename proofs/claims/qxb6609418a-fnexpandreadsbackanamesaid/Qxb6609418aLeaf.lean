/-
  Seat b6609418a: the walks of the leaves: zzBytes, zzNameByte, zzIsName, nameLength.
-/
import Derived.Test.Qxb6609418aRows
import Derived.WalkKit
import Derived.WalkSpells
import Derived.WalkSmall
import Derived.Deep.QuietTactic
import Derived.BigQuiet
namespace Go.Proofs.Qxb6609418a
open Go.RowKit

theorem hide {p : Prop} (h : p) : Hid p := h
theorem ret_bool {a b : Bool} (h : a = b) : Ending.returned (.bool a) = .returned (.bool b) := by rw [h]
theorem data_at (s : ByteArray) (k : Nat) (h : k < s.size) : s.data[k]! = s[k] := by
  have h' : k < s.data.size := h
  rw [getElem!_pos s.data k h']; rfl

def letterI (c : Int) : Bool := (c == 95) || (decide (97 ≤ c) && decide (c ≤ 122)) || (decide (65 ≤ c) && decide (c ≤ 90))
def nbI (first : Bool) (c : Int) : Bool := letterI c || (!first && decide (48 ≤ c) && decide (c ≤ 57))
/-- the byte at j may stand at place j of a name -/
def okAt (s : ByteArray) (j : Nat) : Bool := nbI ((j : Int) == 0) ((s.data[j]!).toNat : Int)
def nameTo (s : ByteArray) : Nat → Bool
  | 0 => true
  | k + 1 => okAt s k && nameTo s k
def isNameB (s : ByteArray) : Bool := decide (0 < s.size) && nameTo s s.size

theorem nameTo_false (s : ByteArray) (j : Nat) : ∀ k, j < k → okAt s j = false → nameTo s k = false
  | 0, h, _ => absurd h (Nat.not_lt_zero _)
  | k + 1, h, hd => by
    unfold nameTo
    by_cases e : j = k
    · subst e; rw [hd]; rfl
    · rw [nameTo_false s j k (by omega) hd, Bool.and_false]

theorem nameTo_at (s : ByteArray) (j k : Nat) (h : nameTo s k = true) (hj : j < k) : okAt s j = true := by
  cases e : okAt s j with
  | true => rfl
  | false => rw [nameTo_false s j k hj e] at h; cases h

set_option maxHeartbeats 400000 in
theorem nameByte_any (c : Int) (first : Bool) (w : World) :
    Calls Try.prog 7 #[.int .u8 c, .bool first] w fun e w' => e = .returned (.bool (nbI first c)) ∧ w' = w := by
  cases first
  all_goals
    go_enter Try.func7, Try.ntmps7
    go_wp2
    all_goals
      go_ret
      refine ⟨ret_bool ?_, rfl⟩
      first | (simp_all [nbI, letterI]; done) | (simp_all [nbI, letterI]; omega) | (rw [Bool.eq_iff_iff]; simp_all [nbI, letterI]; omega)

set_option maxHeartbeats 400000 in
theorem isName_any (s : ByteArray) (w : World) (hs : s.size ≤ 4194304) :
    Calls Try.prog 5 #[.string s] w fun e w' => e = .returned (.bool (isNameB s)) ∧ w' = w := by
  by_cases h0 : s.size = 0
  · have H := hide (show isNameB s = false by simp [isNameB, h0])
    have hz : ((s.size : Int) == 0) = true := by simp [h0]
    clear h0
    go_enter Try.func5, Try.ntmps5
    go_wp2
    go_ret
    exact ⟨ret_bool H.out.symm, rfl⟩
  · have hz : ((s.size : Int) == 0) = false := by rw [beq_eq_false_iff_ne]; omega
    have Hp := hide (show decide (0 < s.size) = true by simp; omega)
    clear h0
    go_enter Try.func5, Try.ntmps5
    go_wp2
    go_loop [3] (fun i => ∃ k : Nat, k ≤ s.size ∧ i = .int .i64 k ∧ Hid (nameTo s k = true)) (fun i => s.size - (intOf i).toNat)
    case atStart => exact ⟨0, Nat.zero_le _, rfl, rfl⟩
    case round =>
      obtain ⟨k, hk, rfl, HK⟩ := hrel
      by_cases hlt : k < s.size
      · have H : Hid (s.data[k]! = s[k]) := data_at s k hlt
        by_cases hb : nbI ((k : Int) == 0) (s[k].toNat : Int) = true
        · go_wp2_with (go_at_call 7; refine (nameByte_any _ _ _).mono ?_; rintro e w' ⟨rfl, rfl⟩)
          go_round
          case rel => exact ⟨k + 1, by omega, by go_num, by show nameTo s (k + 1) = true; unfold nameTo; rw [HK.out, okAt, H.out, Bool.and_true]; exact hb⟩
          case measure => simp [intOf]; omega
        · have hb' : nbI ((k : Int) == 0) (s[k].toNat : Int) = false := by simpa using hb
          clear hb
          go_wp2_with (go_at_call 7; refine (nameByte_any _ _ _).mono ?_; rintro e w' ⟨rfl, rfl⟩)
          go_ret
          exact ⟨ret_bool (by rw [isNameB, nameTo_false s k s.size hlt (by rw [okAt, H.out]; exact hb'), Bool.and_false]), rfl⟩
      · have e : k = s.size := by omega
        subst e
        go_wp2
        go_ret
        exact ⟨ret_bool (by rw [isNameB, HK.out, Hp.out]; rfl), rfl⟩

theorem nb_cases {b : Bool} {c : Int} (h : nbI b c = true) : c = 95 ∨ (97 ≤ c ∧ c ≤ 122) ∨ (65 ≤ c ∧ c ≤ 90) ∨ (b = false ∧ 48 ≤ c ∧ c ≤ 57) := by
  cases b <;> simp [nbI, letterI] at h ⊢ <;> omega

theorem nb_not {b : Bool} {c : Int} (h : nbI b c = false) : c ≠ 95 ∧ (c < 97 ∨ 122 < c) ∧ (c < 65 ∨ 90 < c) ∧ (b = true ∨ c < 48 ∨ 57 < c) := by
  cases b <;> simp [nbI, letterI] at h ⊢ <;> omega

set_option maxHeartbeats 1000000 in
theorem nameLen_is (s : ByteArray) (n : Nat) (w : World) (hs : s.size ≤ 4194304) (hn : n ≤ s.size) (ht : Hid (nameTo s n = true)) (hend : Hid (n < s.size → okAt s n = false)) :
    Calls Try.prog 12 #[.string s] w fun e w' => e = .returned (.int .i64 n) ∧ w' = w := by
  go_enter Try.func12, Try.ntmps12
  go_wp2
  go_loop [3] (fun i => ∃ k : Nat, k ≤ n ∧ i = .int .i64 k) (fun i => s.size - (intOf i).toNat)
  case atStart => exact ⟨0, Nat.zero_le _, rfl⟩
  case round =>
    obtain ⟨k, hk, rfl⟩ := hrel
    by_cases hlt : k < s.size
    · have H : Hid (s.data[k]! = s[k]) := data_at s k hlt
      by_cases hkn : k < n
      · have hb : nbI ((k : Int) == 0) (s[k].toNat : Int) = true := by have := nameTo_at s k n ht.out hkn; rw [okAt, H.out] at this; exact this
        rcases nb_cases hb with h | ⟨h1, h2⟩ | ⟨h1, h2⟩ | ⟨hz, h1, h2⟩
        · have hc : ((s[k].toNat : Int) == 95) = true := by simpa using h
          clear hb h
          go_wp2
          go_round
          case rel => exact ⟨k + 1, by omega, by go_num⟩
          case measure => simp [intOf]; omega
        all_goals
          clear hb
          go_wp2
          go_round
          case rel => exact ⟨k + 1, by omega, by go_num⟩
          case measure => simp [intOf]; omega
      · have e : k = n := by omega
        subst e
        have hb : nbI ((k : Int) == 0) (s[k].toNat : Int) = false := by have := hend.out hlt; rw [okAt, H.out] at this; exact this
        obtain ⟨h95, h1, h2, h3⟩ := nb_not hb
        have hc : ((s[k].toNat : Int) == 95) = false := by simpa using h95
        clear hb h95 hkn
        cases hk0 : ((k : Int) == 0)
        · have h3' : (s[k].toNat : Int) < 48 ∨ 57 < (s[k].toNat : Int) := by rcases h3 with h3 | h3 | h3; · rw [hk0] at h3; cases h3
                                                                             · exact Or.inl h3
                                                                             · exact Or.inr h3
          clear h3
          rcases h1 with h1 | h1 <;> rcases h2 with h2 | h2 <;> rcases h3' with h3 | h3
          all_goals first | (exfalso; omega) | skip
          all_goals
            try have hd1 : decide ((s[k].toNat : Int) ≤ 90) = false := decide_eq_false (by omega)
            try have hd2 : decide ((s[k].toNat : Int) ≤ 122) = false := decide_eq_false (by omega)
            go_wp2
            go_ret
            exact ⟨rfl, rfl⟩
        · clear h3
          rcases h1 with h1 | h1 <;> rcases h2 with h2 | h2
          all_goals first | (exfalso; omega) | skip
          all_goals
            try have hd1 : decide ((s[k].toNat : Int) ≤ 90) = false := decide_eq_false (by omega)
            try have hd2 : decide ((s[k].toNat : Int) ≤ 122) = false := decide_eq_false (by omega)
            go_wp2
            go_ret
            exact ⟨rfl, rfl⟩
    · have e : k = s.size := by omega
      have e2 : n = s.size := by omega
      subst e2
      clear e
      go_wp2
      go_ret
      exact ⟨rfl, rfl⟩

set_option maxHeartbeats 400000 in
theorem bytes_yes (s t : ByteArray) (b : Bool) (w : World) (h : s.size + t.size ≤ 1048576) :
    Calls Try.prog 4 #[.string s, .string t, .bool b] w fun e w' => e = .returned (.bool true) ∧ w' = w := by
  go_enter Try.func4, Try.ntmps4
  go_wp2
  go_ret
  exact ⟨rfl, rfl⟩

set_option maxHeartbeats 400000 in
theorem bytes_no (s t : ByteArray) (b : Bool) (w : World) (hs : s.size ≤ maxLen) (ht : t.size ≤ maxLen) (h : 1048576 < s.size + t.size) :
    Calls Try.prog 4 #[.string s, .string t, .bool b] w fun e w' => e = .returned (.bool false) ∧ w' = w := by
  unfold maxLen at hs ht
  by_cases h1 : 1048576 < (s.size : Int)
  · go_enter Try.func4, Try.ntmps4
    go_wp2
    go_ret
    exact ⟨rfl, rfl⟩
  · by_cases h2 : 1048576 < (t.size : Int)
    · go_enter Try.func4, Try.ntmps4
      go_wp2
      go_ret
      exact ⟨rfl, rfl⟩
    · go_enter Try.func4, Try.ntmps4
      go_wp2
      go_ret
      exact ⟨rfl, rfl⟩

end Go.Proofs.Qxb6609418a
