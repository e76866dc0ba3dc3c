/-
  Seat b6612275a: the plain mathematics: quoting, reading CR LF as LF, and how a text that quoting wrote falls into parts. No program here.
-/
import Derived.Lib.IndexMore
import Derived.Lib.IndexLaws
namespace Go.Proofs.Qxb6612275a

/-- each CR that stands ahead of a LF is left out -/
def crlf : List UInt8 → List UInt8
  | [] => []
  | c :: l => if c = 13 ∧ l.head? = some 10 then crlf l else c :: crlf l

/-- each quote is doubled -/
def quote : List UInt8 → List UInt8
  | [] => []
  | c :: l => if c = 34 then 34 :: 34 :: quote l else c :: quote l

theorem crlf_append (r : List UInt8) (h : r.head? ≠ some 10) : ∀ p : List UInt8, crlf (p ++ r) = crlf p ++ crlf r
  | [] => rfl
  | c :: p => by
    have ih := crlf_append r h p
    have e : (p ++ r).head? = some 10 ↔ p.head? = some 10 := by
      cases p with
      | nil => simp [h]
      | cons a p => simp
    simp only [List.cons_append, crlf, e, ih]
    split <;> simp

theorem prefix_iff (b : UInt8) (l : List UInt8) : ([13, 10] : List UInt8).isPrefixOf (b :: l) = decide (b = 13 ∧ l.head? = some 10) := by
  cases l with
  | nil => simp [List.isPrefixOf]
  | cons a l =>
    by_cases h1 : b = 13 <;> by_cases h2 : a = 10 <;> simp [List.isPrefixOf, h1, h2] <;> first | exact fun h => h1 h.symm | exact fun h => h2 h.symm | exact fun h _ => h1 h.symm | skip

theorem crlf_index : ∀ l : List UInt8, (Lib.index l [13, 10] = -1 → crlf l = l) ∧ ∀ i : Nat, Lib.index l [13, 10] = (i : Int) → crlf l = l.take i ++ 10 :: crlf (l.drop (i + 2))
  | [] => ⟨fun _ => rfl, fun i h => by
      have : Lib.index [] [13, 10] = -1 := rfl
      rw [this] at h; omega⟩
  | b :: l => by
    have ih := crlf_index l
    have hg := Lib.index_ge l [13, 10]
    by_cases hp : b = 13 ∧ l.head? = some 10
    · have e : Lib.index (b :: l) [13, 10] = 0 := by
        unfold Lib.index; rw [prefix_iff, if_pos (by simpa using hp)]
      refine ⟨fun h => (by rw [e] at h; omega), fun i h => ?_⟩
      rw [e] at h
      have : i = 0 := by omega
      subst this
      obtain ⟨rfl, hl⟩ := hp
      cases l with
      | nil => simp at hl
      | cons a l =>
        simp at hl
        subst hl
        simp [crlf]
    · have e : Lib.index (b :: l) [13, 10] = if Lib.index l [13, 10] == -1 then -1 else Lib.index l [13, 10] + 1 := by
        rw [Lib.index, prefix_iff, if_neg (by simpa using hp)]
      have ec : crlf (b :: l) = b :: crlf l := by rw [crlf, if_neg hp]
      refine ⟨fun h => ?_, fun i h => ?_⟩
      · rw [e] at h
        by_cases h1 : Lib.index l [13, 10] = -1
        · rw [ec, ih.1 h1]
        · rw [if_neg (by simpa using h1)] at h; omega
      · rw [e] at h
        by_cases h1 : Lib.index l [13, 10] = -1
        · rw [if_pos (by simpa using h1)] at h; omega
        · rw [if_neg (by simpa using h1)] at h
          obtain ⟨k, rfl⟩ : ∃ k, i = k + 1 := ⟨i - 1, by omega⟩
          rw [ec, ih.2 k (by omega)]
          simp

theorem crlf_cut_no (l : List UInt8) (h : (Lib.cut l [13, 10]).2.2 = false) : (Lib.cut l [13, 10]).1 = l ∧ crlf l = l := by
  unfold Lib.cut at h ⊢
  by_cases h0 : 0 ≤ Lib.index l [13, 10]
  · rw [if_pos h0] at h; cases h
  · rw [if_neg h0]
    have hg := Lib.index_ge l [13, 10]
    exact ⟨rfl, (crlf_index l).1 (by omega)⟩

theorem crlf_cut_yes (l : List UInt8) (h : (Lib.cut l [13, 10]).2.2 = true) : crlf l = (Lib.cut l [13, 10]).1 ++ 10 :: crlf (Lib.cut l [13, 10]).2.1 ∧ (Lib.cut l [13, 10]).1.length + 1 + (Lib.cut l [13, 10]).2.1.length < l.length := by
  unfold Lib.cut at h ⊢
  by_cases h0 : 0 ≤ Lib.index l [13, 10]
  · rw [if_pos h0]
    have hr := Lib.index_room l [13, 10] h0
    obtain ⟨i, hi⟩ := Int.eq_ofNat_of_zero_le h0
    have e := (crlf_index l).2 i hi
    rw [hi] at hr ⊢
    simp only [Int.toNat_natCast] at hr ⊢
    have hl : ([13, 10] : List UInt8).length = 2 := rfl
    rw [hl] at hr ⊢
    refine ⟨e, ?_⟩
    rw [List.length_drop, List.length_take]
    omega
  · rw [if_neg h0] at h; cases h

theorem crlf_contains_no (l : List UInt8) (h : Lib.contains l [13, 10] = false) : crlf l = l := by
  have hg := Lib.index_ge l [13, 10]
  unfold Lib.contains at h
  have := of_decide_eq_false h
  exact (crlf_index l).1 (by omega)

theorem crlf_len : ∀ l : List UInt8, (crlf l).length ≤ l.length
  | [] => Nat.le_refl _
  | c :: l => by
    have := crlf_len l
    unfold crlf
    split <;> simp <;> omega

theorem quote_append (r : List UInt8) : ∀ p : List UInt8, quote (p ++ r) = quote p ++ quote r
  | [] => rfl
  | c :: p => by
    simp only [List.cons_append, quote, quote_append r p]
    split <;> simp

theorem quote_none : ∀ p : List UInt8, (∀ x ∈ p, x ≠ 34) → quote p = p
  | [], _ => rfl
  | c :: p, h => by
    rw [quote, if_neg (h c (by simp)), quote_none p (fun x hx => h x (by simp [hx]))]

theorem quote_len : ∀ l : List UInt8, (quote l).length ≤ 2 * l.length ∧ l.length ≤ (quote l).length
  | [] => by simp [quote]
  | c :: l => by
    have := quote_len l
    unfold quote
    split <;> simp <;> omega

theorem quote_count : ∀ l : List UInt8, (quote l).count 10 = l.count 10
  | [] => rfl
  | c :: l => by
    have ih := quote_count l
    unfold quote
    split
    · rename_i h
      subst h
      simp [ih]
    · simp [List.count_cons, ih]

theorem index_of (c : UInt8) : ∀ (l m : List UInt8), (∀ x ∈ l, x ≠ c) → Lib.indexByte (l ++ c :: m) c = (l.length : Int)
  | [], m, _ => by simp [Lib.indexByte]
  | x :: l, m, h => by
    have hx : x ≠ c := h x (by simp)
    have ih := index_of c l m (fun y hy => h y (by simp [hy]))
    simp [Lib.indexByte, hx, ih]

/-- a text has no quote, or falls at its first quote -/
theorem split_first : ∀ l : List UInt8, (∀ x ∈ l, x ≠ 34) ∨ ∃ p r, l = p ++ 34 :: r ∧ ∀ x ∈ p, x ≠ 34
  | [] => Or.inl (fun x hx => by simp at hx)
  | c :: l => by
    by_cases hc : c = 34
    · subst hc
      exact Or.inr ⟨[], l, rfl, fun x hx => by simp at hx⟩
    · rcases split_first l with h | ⟨p, r, rfl, h⟩
      · exact Or.inl (fun x hx => by simp at hx; rcases hx with rfl | hx; exact hc; exact h x hx)
      · exact Or.inr ⟨c :: p, r, rfl, fun x hx => by simp at hx; rcases hx with rfl | hx; exact hc; exact h x hx⟩

/-- where the reader stands: behind what is read (q), ahead of what is to be read (todo) -/
def St (s content suf : List UInt8) (pos : Nat) (q todo : List UInt8) : Prop :=
  s.drop pos = quote todo ++ 34 :: suf ∧ pos + (quote todo).length + 1 + suf.length = s.length ∧ q ++ crlf todo = crlf content ∧ (q = [] → todo = content)

theorem st_start (pre content suf : List UInt8) : St (pre ++ 34 :: (quote content ++ 34 :: suf)) content suf (pre.length + 1) [] content := by
  refine ⟨?_, ?_, rfl, fun _ => rfl⟩
  · rw [List.drop_append]
    simp
  · simp
    omega

theorem st_last {s content suf q todo : List UInt8} {pos : Nat} (h : St s content suf pos q todo) (hn : ∀ x ∈ todo, x ≠ 34) :
    Lib.indexByte (s.drop pos) 34 = (todo.length : Int) ∧ (s.drop pos).take todo.length = todo ∧ s.drop (pos + (todo.length + 1)) = suf ∧ pos + (todo.length + 1) + suf.length = s.length := by
  obtain ⟨h1, h2, _, _⟩ := h
  rw [quote_none todo hn] at h1 h2
  refine ⟨by rw [h1, index_of 34 todo suf hn], by rw [h1]; exact List.take_left, ?_, by omega⟩
  rw [← List.drop_drop, h1, List.drop_append]
  simp

theorem st_more {s content suf q p r : List UInt8} {pos : Nat} (h : St s content suf pos q (p ++ 34 :: r)) (hn : ∀ x ∈ p, x ≠ 34) :
    Lib.indexByte (s.drop pos) 34 = (p.length : Int) ∧ (s.drop pos).take p.length = p ∧ (∃ m, s.drop (pos + (p.length + 1)) = 34 :: m) ∧ pos + (p.length + 1) + 1 ≤ s.length ∧ St s content suf (pos + (p.length + 1) + 1) (q ++ crlf p ++ [34]) r := by
  obtain ⟨h1, h2, h3, _⟩ := h
  have e : quote (p ++ 34 :: r) = p ++ 34 :: 34 :: quote r := by
    rw [quote_append, quote_none p hn]; rfl
  rw [e] at h1 h2
  simp only [List.length_append, List.length_cons] at h2
  have ed : s.drop (pos + (p.length + 1)) = 34 :: (quote r ++ 34 :: suf) := by
    rw [← List.drop_drop, h1, List.append_assoc, List.drop_append]
    simp
  refine ⟨?_, ?_, ⟨_, ed⟩, by omega, ?_, by omega, ?_, fun h => by simp at h⟩
  · rw [h1, List.append_assoc]
    exact index_of 34 p _ hn
  · rw [h1, List.append_assoc]; exact List.take_left
  · rw [← List.drop_drop, ed]; rfl
  · rw [← h3, crlf_append (34 :: r) (by simp)]
    simp [crlf]

theorem take_snoc (l : List UInt8) (k : Nat) (c : UInt8) (h : l[k]? = some c) : l.take (k + 1) = l.take k ++ [c] := by
  rw [List.take_add_one, h]; rfl

theorem text_bound {pre l content : List UInt8} {k L : Nat} (h : l = pre ++ 34 :: quote (content.take k)) (hL : l.length = L) : L ≤ pre.length + 1 + 2 * content.length := by
  have h1 := (quote_len (content.take k)).1
  have h2 : (content.take k).length ≤ content.length := by rw [List.length_take]; omega
  rw [← hL, h]
  simp only [List.length_append, List.length_cons]
  omega

theorem quote_one (c : UInt8) (h : c ≠ 34) : quote [c] = [c] := by simp [quote, h]

/-- the text, a byte of the content further -/
theorem text_plain {pre l content : List UInt8} {k : Nat} {c : UInt8} (h : l = pre ++ 34 :: quote (content.take k)) (hk : content[k]? = some c) (hc : c ≠ 34) : l ++ [c] = pre ++ 34 :: quote (content.take (k + 1)) := by
  rw [take_snoc content k c hk, quote_append, quote_one c hc, h]
  simp

theorem text_quote {pre l content : List UInt8} {k : Nat} (h : l = pre ++ 34 :: quote (content.take k)) (hk : content[k]? = some 34) : l ++ [34] ++ [34] = pre ++ 34 :: quote (content.take (k + 1)) := by
  rw [take_snoc content k 34 hk, quote_append, h]
  simp [quote]

theorem drop_cons (l : List UInt8) (k : Nat) (c : UInt8) (h : l[k]? = some c) : l.drop k = c :: l.drop (k + 1) := by
  obtain ⟨hk, e⟩ := List.getElem?_eq_some_iff.1 h
  rw [List.drop_eq_getElem_cons hk, e]

/-- the wanted text, a byte of the content further -/
theorem want_skip {l content r : List UInt8} {k : Nat} (h : l ++ crlf (content.drop k) = r) (hk : content[k]? = some 13) (hn : content[k + 1]? = some 10) : l ++ crlf (content.drop (k + 1)) = r := by
  rw [drop_cons content k 13 hk, crlf, if_pos ⟨rfl, by rw [List.head?_drop, hn]⟩] at h
  exact h

theorem want_keep {l content r : List UInt8} {k : Nat} {c : UInt8} (h : l ++ crlf (content.drop k) = r) (hk : content[k]? = some c) (hn : ¬ (c = 13 ∧ content[k + 1]? = some 10)) : l ++ [c] ++ crlf (content.drop (k + 1)) = r := by
  rw [drop_cons content k c hk, crlf, if_neg (by rw [List.head?_drop]; exact hn)] at h
  rw [← h]
  simp

theorem want_bound {l content : List UInt8} {k L : Nat} (h : l ++ crlf (content.drop k) = crlf content) (hL : l.length = L) : L ≤ content.length := by
  have e := congrArg List.length h
  rw [List.length_append] at e
  have := crlf_len content
  omega

theorem cnt_bound {content : List UInt8} {k n t : Nat} (h : n + (content.drop k).count 10 = t) (ht : content.count 10 = t) : n ≤ content.length := by
  have : content.count 10 ≤ content.length := List.count_le_length
  omega

theorem cnt_hit {content : List UInt8} {k n t : Nat} (h : n + (content.drop k).count 10 = t) (hk : content[k]? = some 10) : n + 1 + (content.drop (k + 1)).count 10 = t := by
  rw [drop_cons content k 10 hk, List.count_cons_self] at h
  omega

theorem cnt_miss {content : List UInt8} {k n t : Nat} {c : UInt8} (h : n + (content.drop k).count 10 = t) (hk : content[k]? = some c) (hc : c ≠ 10) : n + (content.drop (k + 1)).count 10 = t := by
  rw [drop_cons content k c hk, List.count_cons_of_ne hc] at h
  exact h

end Go.Proofs.Qxb6612275a
