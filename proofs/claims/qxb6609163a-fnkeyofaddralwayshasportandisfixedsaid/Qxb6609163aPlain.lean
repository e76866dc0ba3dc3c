/-
  Seat b6609163a: the plain law: what 'KeyAddr' says of an address.
-/
import Derived.Test.Qxb6609163aKey
namespace Go.Proofs.Qxb6609163a
open Go.RowKit

theorem at_off (X : ByteArray) (p : Array UInt8) (k : Nat) : (X ++ (⟨#[58]⟩ ++ ⟨p⟩ : ByteArray)).data[X.size + k]! = (#[58] ++ p)[k]! := by
  have e : (X ++ (⟨#[58]⟩ ++ ⟨p⟩ : ByteArray)).data = X.data ++ (#[58] ++ p) := by simp [ByteArray.data_append]
  rw [e]
  have hx : X.size = X.data.size := rfl
  simp only [getElem!_def]
  rw [Array.getElem?_append_right (by omega)]
  congr 2
  omega

theorem size_of (X : ByteArray) (p : Array UInt8) : (X ++ (⟨#[58]⟩ ++ ⟨p⟩ : ByteArray)).size = X.size + (1 + p.size) := by
  simp only [ByteArray.size_append]; rfl

theorem last_of (X : ByteArray) (p : Array UInt8) (hp : ∀ k, k < p.size → (p[k]!).toNat ≠ 58) :
    Lib.lastIdx (X ++ (⟨#[58]⟩ ++ ⟨p⟩)) 58 (X ++ (⟨#[58]⟩ ++ ⟨p⟩ : ByteArray)).size = X.size := by
  have hsz := size_of X p
  have h0 : (((X ++ (⟨#[58]⟩ ++ ⟨p⟩ : ByteArray)).data[X.size]!).toNat : Int) = 58 := by
    have := at_off X p 0
    rw [Nat.add_zero] at this
    rw [this]
    simp [getElem!_def, Array.getElem?_append]
  rcases Lib.lastIdx_spec (X ++ (⟨#[58]⟩ ++ ⟨p⟩)) 58 (X ++ (⟨#[58]⟩ ++ ⟨p⟩ : ByteArray)).size with ⟨_, hn⟩ | ⟨i, hi, e, hc, hn⟩
  · exact absurd h0 (hn _ (by omega))
  · rw [e]
    by_cases h1 : i < X.size
    · exact absurd h0 (hn _ h1 (by omega))
    · by_cases h2 : i = X.size
      · rw [h2]
      · exfalso
        have e2 : i = X.size + ((i - X.size - 1) + 1) := by omega
        rw [e2, at_off] at hc
        have hk := hp (i - X.size - 1) (by omega)
        apply hk
        have e3 : (#[58] ++ p)[i - X.size - 1 + 1]! = p[i - X.size - 1]! := by
          simp only [getElem!_def]
          rw [Array.getElem?_append_right (by simp)]
          simp
        rw [e3] at hc
        omega

theorem tail_of (X : ByteArray) (p : Array UInt8) : (X ++ (⟨#[58]⟩ ++ ⟨p⟩ : ByteArray)).extract (X.size + 1) (X ++ (⟨#[58]⟩ ++ ⟨p⟩ : ByteArray)).size = ⟨p⟩ := by
  apply ByteArray.ext
  apply Array.ext'
  rw [← ByteArray.toList_eq, Lib.extract_toList, size_of]
  have e : (X ++ (⟨#[58]⟩ ++ ⟨p⟩ : ByteArray)).data.toList = X.data.toList ++ (58 :: p.toList) := by simp [ByteArray.data_append]
  have hx : X.size = X.data.toList.length := rfl
  rw [e, hx, List.drop_append]
  simp
  rw [List.take_of_length_le (by simp; omega)]
  rw [List.drop_eq_nil_of_le (by rw [← hx]; omega)]
  rfl

theorem digits_q (q : Bool) : digB (portOf q) = true := by cases q <;> decide

theorem ends_joined {n : Nat} {q : Bool} {a : ByteArray} (h : Joined n (portOf q) a) : endsB a = true := by
  obtain ⟨X, _, rfl⟩ := h
  have hd := digits_q q
  obtain ⟨p, hp⟩ : ∃ p, portOf q = ⟨p⟩ := ⟨_, rfl⟩
  have hne : ∀ k, k < p.size → (p[k]!).toNat ≠ 58 := by
    have : p = (portOf q).data := by rw [hp]
    rw [this]
    cases q <;> decide
  rw [hp] at hd ⊢
  rw [endsB, last_of X p hne]
  have e : ((X.size : Int) + 1).toNat = X.size + 1 := by omega
  rw [e, tail_of, hd]
  simp

theorem ends_key {q : Bool} {s x : ByteArray} (h : KeyAddr q s x) : endsB x = true := by
  rcases h with ⟨h, rfl⟩ | ⟨_, h⟩
  · exact h
  · exact ends_joined h

theorem again_key {q : Bool} {s x y : ByteArray} (h : KeyAddr q s x) (k : KeyAddr q x y) : y = x := by
  rcases k with ⟨_, e⟩ | ⟨e, _⟩
  · exact e
  · rw [ends_key h] at e; cases e

theorem key_yes {q : Bool} {s x : ByteArray} (h : KeyAddr q s x) (he : endsB s = true) : x = s := by
  rcases h with ⟨_, e⟩ | ⟨e, _⟩
  · exact e
  · rw [he] at e; cases e

theorem key_no {q : Bool} {s x : ByteArray} (h : KeyAddr q s x) (he : endsB s = false) : Joined (s.size + 2) (portOf q) x := by
  rcases h with ⟨e, _⟩ | ⟨_, e⟩
  · rw [he] at e; cases e
  · exact e

theorem portOf_size (q : Bool) : (portOf q).size ≤ 3 := by cases q <;> decide

theorem key_size {q : Bool} {s x : ByteArray} (h : KeyAddr q s x) : x.size ≤ s.size + 6 := by
  rcases h with ⟨_, rfl⟩ | ⟨_, X, hX, rfl⟩
  · omega
  · have := portOf_size q
    simp only [ByteArray.size_append]
    have e : (⟨#[58]⟩ : ByteArray).size = 1 := rfl
    omega

/-- the suffix: byte for byte -/
theorem suffix_of {n : Nat} {p a : ByteArray} (h : Joined n p a) : ∃ o, o + (⟨#[58]⟩ ++ p : ByteArray).size = a.size ∧ ∀ k, k < (⟨#[58]⟩ ++ p : ByteArray).size → a.data[o + k]! = (⟨#[58]⟩ ++ p : ByteArray).data[k]! := by
  obtain ⟨X, _, rfl⟩ := h
  refine ⟨X.size, by simp only [ByteArray.size_append], fun k _ => ?_⟩
  obtain ⟨p⟩ := p
  rw [at_off]
  simp [ByteArray.data_append]

end Go.Proofs.Qxb6609163a
