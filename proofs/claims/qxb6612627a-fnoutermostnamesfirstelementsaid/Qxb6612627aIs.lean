/-
  Seat b6612627a: the walks of isOutermostOf, hasClose, zzBytes.
-/
import Derived.Test.Qxb6612627aOut
namespace Go.Proofs.Qxb6612627a
open Go.RowKit

theorem byte_eq {b : UInt8} {n : UInt8} (h : (b.toNat : Int) = (n.toNat : Int)) : b = n := by
  apply UInt8.toNat_inj.1
  omega
theorem byte_ne {b : UInt8} {n : UInt8} (h : b ≠ n) : ¬ (b.toNat : Int) = (n.toNat : Int) := fun e => h (byte_eq e)

theorem isEmpty_of (r : ByteArray) (h : r.data.toList = []) : r.toList.isEmpty = true := by
  rw [ByteArray.toList_eq, h]; rfl

set_option maxHeartbeats 400000 in
theorem is_none (r f : ByteArray) (h0 : f.size = 0) (hr : r.data.toList = (hd f.data.toList).drop 1) (w : World) :
    Calls Try.prog 8 #[.string r, .string f] w fun e w' => e = .returned (.bool true) ∧ Below w.heap.size w w' := by
  have hf : f.data.toList = [] := List.length_eq_zero_iff.1 h0
  have he : r.toList.isEmpty = true := isEmpty_of r (by rw [hr, hf]; rfl)
  have hz : ((f.size : Int) == 0) = true := by simp [h0]
  clear h0 hr hf
  go_enter Try.func8, Try.ntmps8
  go_wp2
  go_ret
  exact ⟨by simp, Below.refl _ _⟩

set_option maxHeartbeats 400000 in
theorem is_close (r f : ByteArray) (h0 : 0 < f.size) (hc : ((f[0].toNat : Int) == 62) = true) (hr : r.data.toList = (hd f.data.toList).drop 1) (w : World) :
    Calls Try.prog 8 #[.string r, .string f] w fun e w' => e = .returned (.bool true) ∧ Below w.heap.size w w' := by
  have he : r.toList.isEmpty = true := by
    apply isEmpty_of
    rw [hr]
    have h1 := list_at f 0 h0
    have h2 : f[0] = 62 := byte_eq (n := 62) (by simpa using hc)
    cases hl : f.data.toList with
    | nil => rfl
    | cons a l =>
      rw [hl, h2] at h1
      simp at h1
      simp [hd, h1]
  have hz : ((f.size : Int) == 0) = false := by rw [beq_eq_false_iff_ne]; omega
  clear hr
  go_enter Try.func8, Try.ntmps8
  go_wp2
  go_ret
  exact ⟨by simp, Below.refl _ _⟩

/-- what the longest run without a '>' behind the first byte is, byte for byte -/
theorem facts (r f : ByteArray) (h0 : 0 < f.size) (hc : f[0] ≠ 62) (hr : r.data.toList = (hd f.data.toList).drop 1) :
    1 + r.size ≤ f.size ∧ (∀ k, (hk : k < r.size) → (h : 1 + k < f.size) → r[k] ≠ 62 ∧ r[k] = f[1 + k]) ∧ (1 + r.size = f.size ∨ ∃ h : 1 + r.size < f.size, f[1 + r.size] = 62) := by
  have hne : (hd f.data.toList).length = r.size + 1 := by
    have h1 := list_at f 0 h0
    have hl := congrArg List.length hr
    rw [list_len, List.length_drop] at hl
    cases hx : f.data.toList with
    | nil => rw [hx] at h1; simp at h1
    | cons a l =>
      rw [hx] at h1 hl
      have : a = f[0] := by simpa using h1
      have hp : 0 < (hd (a :: l)).length := by rw [hd, if_neg (by rw [this]; exact hc)]; simp
      omega
  have hle := hd_len f.data.toList
  rw [list_len] at hle
  refine ⟨by omega, fun k hk h => ?_, ?_⟩
  · obtain ⟨e1, e2⟩ := hd_at f.data.toList (1 + k) (by omega)
    have e3 : r.data.toList[k]? = (hd f.data.toList)[1 + k]? := by rw [hr, List.getElem?_drop]
    rw [list_at r k hk, e1, list_at f (1 + k) h] at e3
    rw [list_at f (1 + k) h] at e2
    have e4 : r[k] = f[1 + k] := Option.some.inj e3
    exact ⟨by rw [e4]; exact fun e => e2 (by rw [e]), e4⟩
  · rcases hd_end f.data.toList with e | e
    · left; rw [list_len] at e; omega
    · right
      rw [hne, Nat.add_comm] at e
      obtain ⟨h, e'⟩ := List.getElem?_eq_some_iff.1 e
      exact ⟨h, e'⟩

set_option maxHeartbeats 1000000 in
theorem is_run (r f : ByteArray) (hf : f.size ≤ 4194304) (h0 : 0 < f.size) (hc : ((f[0].toNat : Int) == 62) = false) (hr : r.data.toList = (hd f.data.toList).drop 1) (w : World) :
    Calls Try.prog 8 #[.string r, .string f] w fun e w' => e = .returned (.bool true) ∧ Below w.heap.size w w' := by
  obtain ⟨k1, k2, k3⟩ := facts r f h0 (fun e => by rw [e] at hc; exact absurd hc (by decide)) hr
  have K2 := hide k2
  have K3 := hide k3
  clear k2 k3 hr
  have hz : ((f.size : Int) == 0) = false := by rw [beq_eq_false_iff_ne]; omega
  have hd1 : decide ((f.size : Int) < 1 + (r.size : Int)) = false := decide_eq_false (by omega)
  go_enter Try.func8, Try.ntmps8
  go_wp2
  go_loopw [5] (fun vj wr => ∃ k : Nat, k ≤ r.size ∧ vj = .int .i64 k ∧ Below w.heap.size w wr) (fun vj _ => r.size - (intOf vj).toNat)
  case atStart => exact ⟨0, Nat.zero_le _, rfl, Below.refl _ _⟩
  case round =>
    obtain ⟨k, hk, rfl, hb⟩ := hrel
    by_cases hlt : k < r.size
    · have h1 : 1 + k < f.size := by omega
      obtain ⟨e1, e2⟩ := K2.out k hlt h1
      have hn62 : ((r[k].toNat : Int) == 62) = false := by rw [beq_eq_false_iff_ne]; exact byte_ne (n := 62) e1
      have hsame : ((r[k].toNat : Int) != (f[1 + k].toNat : Int)) = false := by rw [e2]; simp
      clear e1 e2
      have h2 : (1 : Int) + (k : Int) < (f.size : Int) := by omega
      have h3 : (0 : Int) ≤ 1 + (k : Int) := by omega
      have h5 : IntKind.i64.wrap (1 + (k : Int)) = 1 + (k : Int) := IntWalk.i64_in _ (by omega)
      go_wp2
      go_quiet (fail)
      go_wp2
      go_roundw
      case rel => exact ⟨k + 1, by omega, by go_num, below_drewN hb _⟩
      case measure => simp [intOf]; omega
    · rcases K3.out with e | ⟨h, e⟩
      · have hE : ((1 : Int) + (r.size : Int) == (f.size : Int)) = true := by rw [beq_iff_eq]; omega
        clear e
        go_wp2
        go_ret
        exact ⟨rfl, hb⟩
      · have hE : ((1 : Int) + (r.size : Int) == (f.size : Int)) = false := by rw [beq_eq_false_iff_ne]; omega
        have hE2 : ((f[1 + r.size].toNat : Int) == 62) = true := by rw [e]; rfl
        clear e
        have h2 : (1 : Int) + (r.size : Int) < (f.size : Int) := by omega
        go_wp2
        go_ret
        exact ⟨rfl, hb⟩

theorem is_yes (r f : ByteArray) (hf : f.size ≤ 4194304) (hr : r.data.toList = (hd f.data.toList).drop 1) (w : World) :
    Calls Try.prog 8 #[.string r, .string f] w fun e w' => e = .returned (.bool true) ∧ Below w.heap.size w w' := by
  by_cases h0 : 0 < f.size
  · cases hc : ((f[0].toNat : Int) == 62) with
    | true => exact is_close r f h0 hc hr w
    | false => exact is_run r f hf h0 hc hr w
  · exact is_none r f (by omega) hr w

def hasB (l : List UInt8) : Bool := decide (62 ∈ l)

set_option maxHeartbeats 400000 in
theorem close_any (f : ByteArray) (hf : f.size ≤ 4194304) (w : World) :
    Calls Try.prog 10 #[.string f] w fun e w' => e = .returned (.bool (hasB f.data.toList)) ∧ w' = w := by
  go_enter Try.func10, Try.ntmps10
  go_wp2
  go_loop [3] (fun i => ∃ k : Nat, k ≤ f.size ∧ i = .int .i64 k ∧ Hid (∀ j, j < k → f.data.toList[j]? ≠ some 62)) (fun i => f.size - (intOf i).toNat)
  case atStart => exact ⟨0, Nat.zero_le _, rfl, fun j h => absurd h (Nat.not_lt_zero _)⟩
  case round =>
    obtain ⟨k, hk, rfl, HK⟩ := hrel
    by_cases hlt : k < f.size
    · have HA := hide (list_at f k hlt)
      by_cases hc : ((f[k].toNat : Int) == 62) = true
      · have H : Hid (hasB f.data.toList = true) := by
          have e : f[k] = 62 := byte_eq (n := 62) (by simpa using hc)
          have := HA.out
          rw [e] at this
          exact decide_eq_true (List.mem_of_getElem? this)
        go_wp2
        go_ret
        exact ⟨ret_bool H.out.symm, rfl⟩
      · have hc' : ((f[k].toNat : Int) == 62) = false := by simpa using hc
        clear hc
        go_wp2
        go_round
        case rel =>
          refine ⟨k + 1, by omega, by go_num, fun j hj => ?_⟩
          by_cases e : j = k
          · subst e
            rw [HA.out]
            intro h
            rw [Option.some.inj h] at hc'
            exact absurd hc' (by decide)
          · exact HK.out j (by omega)
        case measure => simp [intOf]; omega
    · have H : Hid (hasB f.data.toList = false) := by
        apply decide_eq_false
        intro h
        obtain ⟨j, hj⟩ := List.mem_iff_getElem?.1 h
        have hj' := (List.getElem?_eq_some_iff.1 hj).1
        rw [list_len] at hj'
        exact HK.out j (by omega) hj
      go_wp2
      go_ret
      exact ⟨ret_bool H.out.symm, rfl⟩

theorem close_is (f : ByteArray) (b : Bool) (hf : f.size ≤ 4194304) (hb : hasB f.data.toList = b) (w : World) :
    Calls Try.prog 10 #[.string f] w fun e w' => e = .returned (.bool b) ∧ w' = w := by
  rw [← hb]; exact close_any f hf w

set_option maxHeartbeats 400000 in
theorem bytes1_yes (s : ByteArray) (w : World) (h : s.size ≤ 1048576) :
    Calls Try.prog 6 #[.string s] w fun e w' => e = .returned (.bool true) ∧ w' = w := by
  go_enter Try.func6, Try.ntmps6
  go_wp2
  go_ret
  exact ⟨rfl, rfl⟩

set_option maxHeartbeats 400000 in
theorem bytes1_no (s : ByteArray) (w : World) (h : 1048576 < s.size) :
    Calls Try.prog 6 #[.string s] w fun e w' => e = .returned (.bool false) ∧ w' = w := by
  go_enter Try.func6, Try.ntmps6
  go_wp2
  go_ret
  exact ⟨rfl, rfl⟩

set_option maxHeartbeats 400000 in
theorem bytes2_yes (s t : ByteArray) (w : World) (h : s.size + t.size ≤ 1048576) :
    Calls Try.prog 9 #[.string s, .string t] w fun e w' => e = .returned (.bool true) ∧ w' = w := by
  go_enter Try.func9, Try.ntmps9
  go_wp2
  go_ret
  exact ⟨rfl, rfl⟩

set_option maxHeartbeats 400000 in
theorem bytes2_no (s t : ByteArray) (w : World) (hs : s.size ≤ maxLen) (ht : t.size ≤ maxLen) (h : 1048576 < s.size + t.size) :
    Calls Try.prog 9 #[.string s, .string t] w fun e w' => e = .returned (.bool false) ∧ w' = w := by
  unfold maxLen at hs ht
  by_cases h1 : 1048576 < (s.size : Int)
  · go_enter Try.func9, Try.ntmps9
    go_wp2
    go_ret
    exact ⟨rfl, rfl⟩
  · by_cases h2 : 1048576 < (t.size : Int)
    · go_enter Try.func9, Try.ntmps9
      go_wp2
      go_ret
      exact ⟨rfl, rfl⟩
    · go_enter Try.func9, Try.ntmps9
      go_wp2
      go_ret
      exact ⟨rfl, rfl⟩

end Go.Proofs.Qxb6612627a
