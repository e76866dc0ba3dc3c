/-
  Seat b6612627a: the plain mathematics: the text ahead of the first '>'. No program here.
-/
import Derived.Lib.IndexMore
import Derived.Lib.IndexLaws
namespace Go.Proofs.Qxb6612627a

/-- the text ahead of the first '>' -/
def hd : List UInt8 → List UInt8
  | [] => []
  | c :: l => if c = 62 then [] else c :: hd l

theorem index_hd : ∀ l : List UInt8, (Lib.index l [62] = -1 ∧ hd l = l) ∨ (0 ≤ Lib.index l [62] ∧ hd l = l.take (Lib.index l [62]).toNat)
  | [] => Or.inl ⟨rfl, rfl⟩
  | c :: l => by
    have e : ([62] : List UInt8).isPrefixOf (c :: l) = decide (c = 62) := by
      by_cases h : c = 62
      · subst h; rfl
      · have h' : ((62 : UInt8) == c) = false := by rw [beq_eq_false_iff_ne]; exact fun e => h e.symm
        simp [List.isPrefixOf, h, h']
    by_cases hc : c = 62
    · right
      have ei : Lib.index (c :: l) [62] = 0 := by rw [Lib.index, e, if_pos (by simpa using hc)]
      rw [ei]
      exact ⟨Int.le_refl _, by simp [hd, hc]⟩
    · have ei : Lib.index (c :: l) [62] = if Lib.index l [62] == -1 then -1 else Lib.index l [62] + 1 := by
        rw [Lib.index, e, if_neg (by simpa using hc)]
      have eh : hd (c :: l) = c :: hd l := by rw [hd, if_neg hc]
      rcases index_hd l with ⟨h1, h2⟩ | ⟨h1, h2⟩
      · left
        rw [ei, h1, eh, h2]
        exact ⟨rfl, rfl⟩
      · right
        have hne : (Lib.index l [62] == -1) = false := by rw [beq_eq_false_iff_ne]; omega
        rw [ei, hne, eh, h2]
        refine ⟨by simp; omega, ?_⟩
        have et : (Lib.index l [62] + 1).toNat = (Lib.index l [62]).toNat + 1 := by omega
        simp [et]

theorem cut_hd (l : List UInt8) : (Lib.cut l [62]).1 = hd l := by
  unfold Lib.cut
  rcases index_hd l with ⟨h1, h2⟩ | ⟨h1, h2⟩
  · rw [if_neg (by omega), h2]
  · rw [if_pos h1, h2]

theorem hd_len : ∀ l : List UInt8, (hd l).length ≤ l.length
  | [] => Nat.le_refl _
  | c :: l => by
    have := hd_len l
    unfold hd
    split <;> simp <;> omega

theorem hd_at : ∀ (l : List UInt8) (j : Nat), j < (hd l).length → (hd l)[j]? = l[j]? ∧ l[j]? ≠ some 62
  | [], j, h => by simp [hd] at h
  | c :: l, j, h => by
    by_cases hc : c = 62
    · rw [hd, if_pos hc] at h; simp at h
    · rw [hd, if_neg hc] at h ⊢
      cases j with
      | zero => simp [hc]
      | succ j =>
        have := hd_at l j (by simpa using h)
        simpa using this

theorem hd_end : ∀ l : List UInt8, (hd l).length = l.length ∨ l[(hd l).length]? = some 62
  | [] => Or.inl rfl
  | c :: l => by
    by_cases hc : c = 62
    · right; rw [hd, if_pos hc, hc]; rfl
    · rw [hd, if_neg hc]
      rcases hd_end l with h | h
      · left; simp [h]
      · right; simpa using h

theorem hd_app : ∀ (l m : List UInt8), 62 ∈ l → hd (l ++ m) = hd l
  | [], m, h => by simp at h
  | c :: l, m, h => by
    by_cases hc : c = 62
    · simp [hd, hc]
    · have h' : 62 ∈ l := by
        rcases List.mem_cons.1 h with e | e
        · exact absurd e.symm hc
        · exact e
      simp [hd, hc, hd_app l m h']

end Go.Proofs.Qxb6612627a
