/-
  Seat b6609163a: the walks of net/url's and net's functions on the road.
-/
import Derived.Test.Qxb6609163aLeaf
import Derived.Test.Qxb6609163aShelf
import Derived.Lib.OthersKept
namespace Go.Proofs.Qxb6609163a
open Go.RowKit

def digs (t : ByteArray) : Bool := digTo t t.size

theorem below_iter (w : World) (s : ByteArray) (p : Nat) : Below w.heap.size w (w.iter s p) := (Below.refl _ _).alloc (Nat.le_refl _) _

set_option maxHeartbeats 400000 in
theorem validPort_any (p t : ByteArray) (ht : Hid (p.extract 1 p.size = t)) (w : World) (h0 : 0 < p.size) (hc : ((p[0].toNat : Int) != 58) = false) :
    Calls Try.prog 19 #[.string p] w fun e w' => e = .returned (.bool (digs t)) ∧ Below w.heap.size w w' := by
  have h1 : (1 : Int) ≤ p.size := by omega
  have he : p.toList.isEmpty = false := by
    rw [ByteArray.toList_eq]
    cases hx : p.data.toList with
    | nil => have : p.data.toList.length = p.size := rfl; rw [hx] at this; simp at this; omega
    | cons _ _ => rfl
  go_enter Try.func19, Try.ntmps19
  go_wp2
  rw [ht.out]
  go_loopw [4] (fun _ w' => ∃ (pos : Nat), w' = w.iter t pos ∧ pos ≤ t.size ∧ Hid (digTo t pos = true)) (fun _ w' => t.size - w'.iterPos w.heap.size)
  case atStart => exact ⟨0, rfl, Nat.zero_le _, rfl⟩
  case round =>
    obtain ⟨pos, rfl, hle, HK⟩ := hrel
    by_cases hp : pos < t.size
    · have H : Hid (t.data[pos]! = t[pos]) := data_at t pos hp
      by_cases hasc : t[pos].toNat < 128
      · have hnx : ∀ ty, (Instr.next (.pointer (some ⟨w.heap.size, 0, none⟩)) true ty).run Try.prog (w.iter t pos) = _ := fun ty => run_next_ascii w t pos ty hp hasc
        by_cases ha : 48 ≤ (t[pos].toNat : Int)
        · by_cases hb : (t[pos].toNat : Int) ≤ 57
          · go_wp2
            go_roundw
            case rel => exact ⟨pos + 1, rfl, by omega, by show digTo t (pos + 1) = true; unfold digTo; rw [HK.out, H.out, Bool.and_true]; simp only [isD, Bool.and_eq_true, decide_eq_true_eq]; exact ⟨ha, hb⟩⟩
            case measure => simp; omega
          · go_wp2
            go_ret
            exact ⟨ret_bool (by rw [digs, digTo_false t pos t.size hp (by rw [H.out]; simp only [isD, Bool.and_eq_false_iff, decide_eq_false_iff_not]; omega)]), below_iter _ _ _⟩
        · go_wp2
          go_ret
          exact ⟨ret_bool (by rw [digs, digTo_false t pos t.size hp (by rw [H.out]; simp only [isD, Bool.and_eq_false_iff, decide_eq_false_iff_not]; omega)]), below_iter _ _ _⟩
      · have hnx : ∀ ty, (Instr.next (.pointer (some ⟨w.heap.size, 0, none⟩)) true ty).run Try.prog (w.iter t pos) = _ := fun ty => run_next_any w t pos ty hp
        have hh := (decode_high t pos hp (by omega)).1
        have hg1 : (57 : Int) < ((Utf8.decode t pos).1 : Int) := by omega
        have hg2 : ¬ ((Utf8.decode t pos).1 : Int) < 48 := by omega
        go_wp2
        go_ret
        exact ⟨ret_bool (by rw [digs, digTo_false t pos t.size hp (by rw [H.out]; simp only [isD, Bool.and_eq_false_iff, decide_eq_false_iff_not]; omega)]), below_iter _ _ _⟩
    · have hnx : ∀ ty, (Instr.next (.pointer (some ⟨w.heap.size, 0, none⟩)) true ty).run Try.prog (w.iter t pos) = _ := fun ty => run_next_end w t pos ty hp
      have e : pos = t.size := by omega
      subst e
      go_wp2
      go_ret
      exact ⟨ret_bool HK.out.symm, below_iter _ _ _⟩

theorem dec0 (n : Nat) : decide (n = 0) = !decide (0 < n) := by
  by_cases h : n = 0
  · subst h; rfl
  · simp [h]; omega

theorem brk3 (l : List UInt8) : Lib.hasPrefix l [91] = false ∨ (Lib.hasPrefix l [91] = true ∧ Lib.hasSuffix l [93] = false) ∨ (Lib.hasPrefix l [91] = true ∧ Lib.hasSuffix l [93] = true ∧ 2 ≤ l.length) := by
  by_cases h1 : Lib.hasPrefix l [91] = true
  · by_cases h2 : Lib.hasSuffix l [93] = true
    · refine Or.inr (Or.inr ⟨h1, h2, ?_⟩)
      rcases l with _ | ⟨a, _ | ⟨b, m⟩⟩
      · simp [Lib.hasPrefix] at h1
      · simp [Lib.hasPrefix] at h1
        subst h1
        revert h2
        decide
      · simp
    · exact Or.inr (Or.inl ⟨h1, by simpa using h2⟩)
  · exact Or.inl (by simpa using h1)

theorem ext_tail (s : ByteArray) (i : Nat) (hi : i < s.size) : (s.extract i s.size).extract 1 (s.extract i s.size).size = s.extract (i + 1) s.size := by
  apply ByteArray.ext
  apply Array.ext'
  have e : (s.extract i s.size).size = s.size - i := by simp
  rw [e]
  rw [← ByteArray.toList_eq, ← ByteArray.toList_eq, Lib.extract_toList, Lib.extract_toList, ← ByteArray.toList_eq, Lib.extract_toList]
  rw [List.drop_take, List.drop_drop, List.take_take]
  congr 1
  omega

theorem ext_head (s : ByteArray) (i : Nat) (hi : i < s.size) (h : 0 < (s.extract i s.size).size) : (s.extract i s.size)[0] = s[i] := by
  rw [ByteArray.getElem_extract]
  rfl

/-- the result of splitHostPort: some host that is no longer, and a port that is empty just where 's' does not end with a port -/
def SplitOf (s : ByteArray) (e : Ending) : Prop := ∃ h p : ByteArray, h.size ≤ s.size ∧ decide (p.size = 0) = !endsB s ∧ e = .returned (.tuple #[.string h, .string p])

set_option maxHeartbeats 400000 in
theorem split_none (s : ByteArray) (w : World) (hs : s.size ≤ 4194304) (he : Lib.lastIndexByte s 58 = -1) :
    Calls Try.prog 16 #[.string s] w fun e w' => SplitOf s e ∧ Below w.heap.size w w' := by
  have H : Hid (endsB s = false) := by show endsB s = false; simp only [endsB]; rw [show Lib.lastIdx s 58 s.size = -1 from he]; rfl
  rcases brk3 s.data.toList with h1 | ⟨h1, h2⟩ | ⟨h1, h2, h3⟩
  all_goals
    try (have h3' : 2 ≤ s.size := h3; clear h3)
    try have h4 : (2 : Int) ≤ (s.size : Int) := by omega
    go_enter Try.func16, Try.ntmps16
    go_wp2_with (first
      | (go_at_call 18; refine (Try.strings_LastIndexByte _ _ (by omega) _).mono ?_; rintro e w' ⟨rfl, rfl⟩)
      | (go_at_call 20; refine (Try.strings_HasPrefix _ _ _).mono ?_; rintro e w' ⟨rfl, rfl⟩)
      | (go_at_call 21; refine (Try.strings_HasSuffix _ _ _ (by omega)).mono ?_; rintro e w' ⟨rfl, rfl⟩))
    go_ret2
    refine ⟨⟨_, _, ?_, ?_, rfl⟩, Below.refl _ _⟩
    · first | exact Nat.le_refl _ | (simp; omega)
    · rw [H.out]; rfl

set_option maxHeartbeats 400000 in
theorem split_bad (s : ByteArray) (i : Nat) (w : World) (hs : s.size ≤ 4194304) (he : Lib.lastIndexByte s 58 = (i : Int)) (hi : i < s.size) (hc : Hid ((s[i].toNat : Int) = 58)) (hd : digs (s.extract (i + 1) s.size) = false) :
    Calls Try.prog 16 #[.string s] w fun e w' => SplitOf s e ∧ Below w.heap.size w w' := by
  have H : Hid (endsB s = false) := by
    show endsB s = false
    simp only [endsB]
    rw [show Lib.lastIdx s 58 s.size = i from he, show ((i : Int) + 1).toNat = i + 1 by omega]
    rw [digB, show digTo (s.extract (i + 1) s.size) (s.extract (i + 1) s.size).size = false from hd, Bool.and_false, Bool.and_false]
  have hne : ((i : Int) != -1) = true := by rw [bne_iff_ne]; omega
  have hv : Hid (∀ w, Calls Try.prog 19 #[.string (s.extract i s.size)] w fun e w' => e = .returned (.bool false) ∧ Below w.heap.size w w') := by
    intro w
    refine (validPort_any (s.extract i s.size) _ (ext_tail s i hi) w (by simp; omega) ?_).mono ?_
    · rw [ext_head s i hi, hc.out]; rfl
    · rintro e w' ⟨rfl, hb⟩; exact ⟨by rw [hd], hb⟩
  clear hd
  rcases brk3 s.data.toList with h1 | ⟨h1, h2⟩ | ⟨h1, h2, h3⟩
  all_goals
    try (have h3' : 2 ≤ s.size := h3; clear h3)
    try have h4 : (2 : Int) ≤ (s.size : Int) := by omega
    go_enter Try.func16, Try.ntmps16
    go_wp2_with (first
      | (go_at_call 18; refine (Try.strings_LastIndexByte _ _ (by omega) _).mono ?_; rintro e w' ⟨rfl, rfl⟩)
      | (go_at_call 19; refine (hv.out _).mono ?_; rintro e w1 ⟨rfl, hb⟩)
      | (go_at_call 20; refine (Try.strings_HasPrefix _ _ _).mono ?_; rintro e w' ⟨rfl, rfl⟩)
      | (go_at_call 21; refine (Try.strings_HasSuffix _ _ _ (by omega)).mono ?_; rintro e w' ⟨rfl, rfl⟩))
    go_ret2
    refine ⟨⟨_, _, ?_, ?_, rfl⟩, hb⟩
    · first | exact Nat.le_refl _ | (simp; omega)
    · rw [H.out]; rfl

set_option maxHeartbeats 400000 in
theorem split_good (s : ByteArray) (i : Nat) (w : World) (hs : s.size ≤ 4194304) (he : Lib.lastIndexByte s 58 = (i : Int)) (hi : i < s.size) (hc : Hid ((s[i].toNat : Int) = 58)) (hd : digs (s.extract (i + 1) s.size) = true) :
    Calls Try.prog 16 #[.string s] w fun e w' => SplitOf s e ∧ Below w.heap.size w w' := by
  have H : Hid (endsB s = decide (0 < (s.extract (i + 1) s.size).size)) := by
    show endsB s = _
    simp only [endsB]
    rw [show Lib.lastIdx s 58 s.size = i from he, show ((i : Int) + 1).toNat = i + 1 by omega]
    simp only [digB, show digTo _ _ = true from hd, Bool.and_true]
    simp
  have hne : ((i : Int) != -1) = true := by rw [bne_iff_ne]; omega
  have hv : Hid (∀ w, Calls Try.prog 19 #[.string (s.extract i s.size)] w fun e w' => e = .returned (.bool true) ∧ Below w.heap.size w w') := by
    intro w
    refine (validPort_any (s.extract i s.size) _ (ext_tail s i hi) w (by simp; omega) ?_).mono ?_
    · rw [ext_head s i hi, hc.out]; rfl
    · rintro e w' ⟨rfl, hb⟩; exact ⟨by rw [hd], hb⟩
  clear hd
  have h5 : IntKind.i64.wrap ((i : Int) + 1) = (i : Int) + 1 := IntWalk.i64_in _ (by omega)
  obtain ⟨g, hg⟩ : ∃ g, Hid (s.extract 0 i = g) := ⟨_, rfl⟩
  have hz : g.size ≤ s.size := by rw [← hg.out]; simp; omega
  rcases brk3 g.data.toList with h1 | ⟨h1, h2⟩ | ⟨h1, h2, h3⟩
  all_goals
    try (have h3' : 2 ≤ g.size := h3; clear h3)
    try have h4 : (2 : Int) ≤ (g.size : Int) := by omega
    go_enter Try.func16, Try.ntmps16
    go_wp2_with (first
      | (go_at_call 18; refine (Try.strings_LastIndexByte _ _ (by omega) _).mono ?_; rintro e w' ⟨rfl, rfl⟩)
      | (go_at_call 19; refine (hv.out _).mono ?_; rintro e w1 ⟨rfl, hb⟩))
    go_quiet (fail)
    rw [hg.out]
    go_wp2_with (first
      | (go_at_call 20; refine (Try.strings_HasPrefix _ _ _).mono ?_; rintro e w' ⟨rfl, rfl⟩)
      | (go_at_call 21; refine (Try.strings_HasSuffix _ _ _ (by omega)).mono ?_; rintro e w' ⟨rfl, rfl⟩))
    go_ret2
    refine ⟨⟨_, _, ?_, ?_, rfl⟩, below_drewN hb _⟩
    · first | exact hz | (simp; omega)
    · rw [H.out]; exact dec0 _

theorem split_any (s : ByteArray) (w : World) (hs : s.size ≤ 4194304) :
    Calls Try.prog 16 #[.string s] w fun e w' => SplitOf s e ∧ Below w.heap.size w w' := by
  rcases Lib.lastIdx_spec s 58 s.size with ⟨e, _⟩ | ⟨i, hi, e, hc, _⟩
  · exact split_none s w hs e
  · rw [data_at s i hi] at hc
    cases hd : digs (s.extract (i + 1) s.size) with
    | true => exact split_good s i w hs e hi hc hd
    | false => exact split_bad s i w hs e hi hc hd

end Go.Proofs.Qxb6609163a
