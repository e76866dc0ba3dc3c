/-
  Seat b6609418a: the plain law: the texts that the law writes, and where the first closing brace and the name's end lie in them.
-/
import Derived.Test.Qxb6609418aTop
namespace Go.Proofs.Qxb6609418a
open Go.RowKit

theorem index_of (c : UInt8) : ∀ (l m : List UInt8), (∀ x ∈ l, x ≠ c) → Lib.indexByte (l ++ c :: m) c = (l.length : Int)
  | [], m, _ => by simp [Lib.indexByte]
  | x :: l, m, h => by
    have hx : x ≠ c := h x (by simp)
    have ih := index_of c l m (fun y hy => h y (by simp [hy]))
    simp [Lib.indexByte, hx, ih]

/-- '$', a brace, the name, a brace, the rest: as the walk writes it -/
def braced (name rest : ByteArray) : ByteArray := ⟨#[36, 123]⟩ ++ name ++ ⟨#[125]⟩ ++ rest
def plain (name rest : ByteArray) : ByteArray := ⟨#[36]⟩ ++ name ++ rest

theorem braced_list (name rest : ByteArray) : (braced name rest).data.toList = 36 :: 123 :: (name.data.toList ++ 125 :: rest.data.toList) := by
  simp [braced, ByteArray.data_append]
theorem plain_list (name rest : ByteArray) : (plain name rest).data.toList = 36 :: (name.data.toList ++ rest.data.toList) := by
  simp [plain, ByteArray.data_append]
theorem braced_size (name rest : ByteArray) : (braced name rest).size = name.size + rest.size + 3 := by
  simp only [braced, ByteArray.size_append]
  show 2 + name.size + 1 + rest.size = _
  omega
theorem plain_size (name rest : ByteArray) : (plain name rest).size = name.size + rest.size + 1 := by
  simp only [plain, ByteArray.size_append]
  show 1 + name.size + rest.size = _
  omega

theorem braced_prefix (name rest : ByteArray) : Lib.hasPrefix (braced name rest).data.toList [36, 123] = true := by
  rw [braced_list]; rfl

theorem braced_index (name rest : ByteArray) (h : ∀ x ∈ name.data.toList, x ≠ 125) : Lib.indexByte (braced name rest).data.toList 125 = ((2 + name.size : Nat) : Int) := by
  rw [braced_list]
  have e := index_of 125 (36 :: 123 :: name.data.toList) rest.data.toList (by
    intro x hx
    simp at hx
    rcases hx with rfl | rfl | hx
    · decide
    · decide
    · exact h x (by simpa using hx))
  rw [List.cons_append, List.cons_append] at e
  rw [e]
  have : name.data.toList.length = name.size := rfl
  simp only [List.length_cons, this]
  omega

theorem braced_cut (name rest : ByteArray) : (braced name rest).extract 2 (2 + name.size) = name := by
  apply ByteArray.ext
  apply Array.ext'
  rw [← ByteArray.toList_eq, Lib.extract_toList, braced_list]
  have e : 2 + name.size - 2 = name.data.toList.length := by show _ = name.size; omega
  rw [e]
  show List.take _ (name.data.toList ++ _) = _
  exact List.take_left

theorem plain_cut (name rest : ByteArray) : (plain name rest).extract 1 (1 + name.size) = name := by
  apply ByteArray.ext
  apply Array.ext'
  rw [← ByteArray.toList_eq, Lib.extract_toList, plain_list]
  have e : 1 + name.size - 1 = name.data.toList.length := by show _ = name.size; omega
  rw [e]
  show List.take _ (name.data.toList ++ _) = _
  exact List.take_left

theorem plain_tail (name rest : ByteArray) : (plain name rest).extract 1 (plain name rest).size = name ++ rest := by
  apply ByteArray.ext
  apply Array.ext'
  rw [← ByteArray.toList_eq, Lib.extract_toList, plain_list, plain_size]
  have h1 : name.data.toList.length = name.size := rfl
  have h2 : rest.data.toList.length = rest.size := rfl
  simp [ByteArray.data_append]
  rw [List.take_of_length_le (by simp)]

/-- how far the name at the head of s reaches -/
theorem reach (s : ByteArray) : ∀ m, m ≤ s.size → nameTo s m = true ∨ ∃ n, n < m ∧ nameTo s n = true ∧ okAt s n = false
  | 0, _ => Or.inl rfl
  | m + 1, h => by
    rcases reach s m (by omega) with ht | ⟨n, hn, h1, h2⟩
    · cases e : okAt s m with
      | true => exact Or.inl (by unfold nameTo; rw [e, ht]; rfl)
      | false => exact Or.inr ⟨m, by omega, ht, e⟩
    · exact Or.inr ⟨n, by omega, h1, h2⟩

theorem ok_no_brace (s : ByteArray) (j : Nat) (h : okAt s j = true) : s.data[j]! ≠ 125 ∧ s.data[j]! ≠ 123 := by
  rw [okAt] at h
  rcases nb_cases h with h | h | h | ⟨_, h⟩ <;> refine ⟨fun e => ?_, fun e => ?_⟩ <;> rw [e] at h <;> revert h <;> decide

theorem name_no_brace (s : ByteArray) (h : nameTo s s.size = true) : ∀ x ∈ s.data.toList, x ≠ 125 := by
  intro x hx
  obtain ⟨j, hj, rfl⟩ := List.getElem_of_mem hx
  have hj' : j < s.size := hj
  have := (ok_no_brace s j (nameTo_at s j s.size h hj')).1
  rw [data_at s j hj'] at this
  exact this

theorem plain_prefix (name rest : ByteArray) (h0 : 0 < name.size) (h : nameTo name name.size = true) : Lib.hasPrefix (plain name rest).data.toList [36, 123] = false := by
  rw [plain_list]
  have hb := (ok_no_brace name 0 (nameTo_at name 0 name.size h h0)).2
  rw [data_at name 0 h0] at hb
  have e : name[0] = name.data.toList[0]'h0 := rfl
  rw [e] at hb
  cases hl : name.data.toList with
  | nil => have : name.data.toList.length = name.size := rfl; rw [hl] at this; simp at this; omega
  | cons a l =>
    simp only [hl, List.getElem_cons_zero] at hb
    have e1 : ((36 : UInt8) == 36) = true := rfl
    have e2 : ((123 : UInt8) == a) = false := by rw [beq_eq_false_iff_ne]; exact Ne.symm hb
    simp only [Lib.hasPrefix, List.cons_append, List.isPrefixOf, e1, e2, Bool.true_and, Bool.false_and]

theorem app_at_left (a b : ByteArray) (j : Nat) (h : j < a.size) : (a ++ b).data[j]! = a.data[j]! := by
  have h' : j < a.data.size := h
  rw [ByteArray.data_append]
  simp only [getElem!_def]
  rw [Array.getElem?_append_left h']
theorem app_at_right (a b : ByteArray) : (a ++ b).data[a.size]! = b.data[0]! := by
  rw [ByteArray.data_append]
  simp only [getElem!_def]
  have e : a.size = a.data.size := rfl
  rw [Array.getElem?_append_right (by omega), e, Nat.sub_self]

theorem nameTo_left (a b : ByteArray) : ∀ k, k ≤ a.size → nameTo (a ++ b) k = nameTo a k
  | 0, _ => rfl
  | k + 1, h => by
    unfold nameTo
    rw [nameTo_left a b k (by omega), okAt, okAt, app_at_left a b k (by omega)]

end Go.Proofs.Qxb6609418a
