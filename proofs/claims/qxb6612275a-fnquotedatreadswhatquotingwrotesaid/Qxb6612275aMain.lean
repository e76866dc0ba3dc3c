/-
  Seat b6612275a: the law's walk where the inputs are within its bounds and the suffix opens with no quote.
-/
import Derived.Test.Qxb6612275aZz
namespace Go.Proofs.Qxb6612275a
open Go.RowKit

theorem named (x : ByteArray) : ∃ T, Hid (x = T) := ⟨x, rfl⟩

theorem byte_eq {b : UInt8} {n : UInt8} (h : (b.toNat : Int) = (n.toNat : Int)) : b = n := by
  apply UInt8.toNat_inj.1
  omega
theorem byte_ne {b : UInt8} {n : UInt8} (h : ¬ (b.toNat : Int) = (n.toNat : Int)) : b ≠ n := fun e => h (by rw [e])

theorem no_skip {c : ByteArray} {k : Nat} (hlt : k < c.size) (h : ¬ (((c[k].toNat : Int) == 13) = true ∧ ∃ h : k + 1 < c.size, ((c[k + 1].toNat : Int) == 10) = true)) : ¬ (c[k] = 13 ∧ c.data.toList[k + 1]? = some 10) := by
  rintro ⟨h1, h2⟩
  obtain ⟨hk, e⟩ := List.getElem?_eq_some_iff.1 h2
  have e' : c[k + 1] = 10 := e
  exact h ⟨by rw [h1]; rfl, hk, by rw [e']; rfl⟩

set_option maxRecDepth 100000 in
set_option maxHeartbeats 2000000 in
theorem law_main (p c s : ByteArray) (m : Int) (h0 : p.size ≤ 262144) (h1 : c.size ≤ 262144) (h2 : s.size ≤ 262144) (HSUF : Hid (s.data.toList.head? ≠ some 34)) (w : World) (hm : w.cell? ⟨0, 0, none⟩ = some (.int .i64 m)) :
    Calls Try.prog 4 #[.string p, .string c, .string s] w fun e w' => e = .returned (.bool true) ∧ Below w.heap.size w w' := by
  have d1 : decide (262144 < (p.size : Int)) = false := decide_eq_false (by omega)
  have d2 : decide (262144 < (c.size : Int)) = false := decide_eq_false (by omega)
  have d3 : decide (262144 < (s.size : Int)) = false := decide_eq_false (by omega)
  obtain ⟨B, hB⟩ : ∃ B, Hid (B = w.heap.size) := ⟨_, rfl⟩
  have hpos : 0 < B := by rw [hB.out]; exact heap_pos hm
  have hBle : B ≤ w.heap.size := by rw [hB.out]; exact Nat.le_refl _
  have HM := hide hm
  clear hm
  have hcases : (∃ hs0 : 0 < s.size, decide (0 < (s.size : Int)) = true ∧ ((s[0].toNat : Int) == 34) = false) ∨ (¬ 0 < s.size ∧ decide (0 < (s.size : Int)) = false) := by
    by_cases hs0 : 0 < s.size
    · refine Or.inl ⟨hs0, decide_eq_true (by omega), ?_⟩
      cases e : ((s[0].toNat : Int) == 34) with
      | false => rfl
      | true =>
        exfalso
        apply HSUF.out
        have e2 : s[0] = 34 := byte_eq (n := 34) (by simpa using e)
        have e3 : s.data.toList[0]? = some s[0] := List.getElem?_eq_getElem (l := s.data.toList) hs0
        rw [List.head?_eq_getElem?, e3, e2]
    · exact Or.inr ⟨hs0, decide_eq_false (by omega)⟩
  rcases hcases with ⟨hs0, d4, hq0⟩ | ⟨hs0, d4⟩
  all_goals
    go_enter Try.func4, Try.ntmps4
    go_wp2_with (first
      | (go_at_call 8; refine (bytes_yes p c s _ (by omega)).mono ?_; rintro e w' ⟨rfl, rfl⟩)
      | (at_make; refine wp_make _ rfl _ _ rfl B _ (p.size + 2 * c.size + 2 + s.size) rfl rfl (by omega) (by omega) hBle ?_; intro w1 hb1 hbel1)
      | (at_builtin; refine wp_text rfl (.tmp 54) (.tmp 55) rfl B _ [] _ rfl (by exact hb1) p rfl 0 rfl (by omega) (by omega) ?_; intro ao2 cap2 w2 hb2 hbel2; rw [Nat.zero_add, List.nil_append] at hb2)
      | (at_builtin; refine wp_byte rfl (.tmp 57) (.tmp 58) rfl B _ p.data.toList _ 34 34 rfl rfl (by exact hb2) rfl p.size rfl (by omega) ?_; intro ao3 cap3 w3 hb3 hbel3))
    go_loopw [7, 8] (fun vt vk wr => ∃ (k L : Nat) (ao : Option Addr) (cap : Nat) (l : List UInt8), vk = .int .i64 k ∧ k ≤ c.size ∧ vt = .slice ao L cap ∧ L ≤ 1048576 ∧ Hid (l.length = L) ∧ Hid (l = p.data.toList ++ 34 :: quote (c.data.toList.take k)) ∧ Buf B (.slice ao L cap) l wr ∧ Below B w' wr) (fun _ vk _ => c.size - (intOf vk).toNat)
    case atStart => exact ⟨0, p.size + 1, ao3, cap3, p.data.toList ++ [34], rfl, Nat.zero_le _, rfl, by omega, by show _ = _; simp, rfl, hb3, (hbel1.trans hbel2).trans hbel3⟩
    case round =>
      clear hb1 hb2 hb3 hbel1 hbel2 hbel3
      obtain ⟨k, L, ao, cap, l, rfl, hk, rfl, hL, HL, HT, hbuf, hbel⟩ := hrel
      by_cases hlt : k < c.size
      · have HCK : Hid (c.data.toList[k]? = some c[k]) := List.getElem?_eq_getElem (l := c.data.toList) hlt
        by_cases hq : ((c[k].toNat : Int) == 34) = true
        · have HQ := hide (byte_eq (n := 34) (by simpa using hq))
          go_wp2_with (first
            | (at_builtin; refine wp_byte rfl (.tmp 70) (.tmp 71) rfl B _ l _ 34 34 rfl rfl (by exact hbuf) rfl L HL.out (by omega) ?_; intro ao1 cap1 w1 hb1 hbel1)
            | (at_builtin; refine wp_byte rfl (.tmp 73) (.tmp 77) rfl B _ (l ++ [34]) _ _ c[k] rfl rfl (by exact hb1) rfl (L + 1) (by rw [List.length_append, HL.out]; rfl) (by omega) ?_; intro ao2 cap2 w2 hb2 hbel2))
          go_roundw
          case rel =>
            have HL' : (l ++ [34] ++ [c[k]]).length = L + 1 + 1 := by simp [HL.out]
            have HT' : l ++ [34] ++ [c[k]] = p.data.toList ++ 34 :: quote (c.data.toList.take (k + 1)) := by
              have := HCK.out
              rw [HQ.out] at this ⊢
              exact text_quote HT.out this
            have hbd := text_bound HT' HL'
            rw [list_len, list_len] at hbd
            exact ⟨k + 1, L + 1 + 1, ao2, cap2, _, by go_num, by omega, rfl, by omega, HL', HT', hb2, (hbel.trans hbel1).trans hbel2⟩
          case measure => simp [intOf]; omega
        · have hq' : ((c[k].toNat : Int) == 34) = false := by simpa using hq
          clear hq
          have HQ := hide (byte_ne (n := 34) (by simpa using hq'))
          go_wp2_with (first
            | (at_builtin; refine wp_byte rfl (.tmp 73) (.tmp 77) rfl B _ l _ _ c[k] rfl rfl (by exact hbuf) rfl L HL.out (by omega) ?_; intro ao2 cap2 w2 hb2 hbel2))
          go_roundw
          case rel =>
            have HL' : (l ++ [c[k]]).length = L + 1 := by simp [HL.out]
            have HT' := text_plain HT.out HCK.out HQ.out
            have hbd := text_bound HT' HL'
            rw [list_len, list_len] at hbd
            exact ⟨k + 1, L + 1, ao2, cap2, _, by go_num, by omega, rfl, by omega, HL', HT', hb2, hbel.trans hbel2⟩
          case measure => simp [intOf]; omega
      · have hkc : Hid (k = c.size) := by show _ = _; omega
        have HT2 : Hid (l = p.data.toList ++ 34 :: quote c.data.toList) := by
          have := HT.out
          rw [hkc.out, List.take_of_length_le (by rw [list_len]; exact Nat.le_refl _)] at this
          exact this
        clear HT
        obtain ⟨T, hT⟩ := named ⟨(l ++ [34] ++ s.data.toList).toArray⟩
        have HTL : Hid (T.data.toList = p.data.toList ++ 34 :: (quote c.data.toList ++ 34 :: s.data.toList)) := by
          show _ = _
          rw [← hT.out, HT2.out]
          simp
        have hTs : T.size ≤ 2097152 := by
          rw [← list_len T, ← hT.out]
          simp only [List.length_append, HL.out, list_len, List.length_cons, List.length_nil]
          omega
        have hstT : Hid (St T.data.toList c.data.toList s.data.toList (p.size + 1) [] c.data.toList) := by
          show St _ _ _ _ _ _
          rw [HTL.out]
          exact st_start p.data.toList c.data.toList s.data.toList
        have hN : Hid (p.size + 1 + (quote c.data.toList).length + 1 = L + 1) := by
          show _ = _
          rw [← HL.out, HT2.out]
          simp only [List.length_append, List.length_cons, list_len]
          omega
        obtain ⟨cnt, hcnt⟩ : ∃ cnt, Hid (c.data.toList.count 10 = cnt) := ⟨_, rfl⟩
        clear HT2 HTL
        go_wp2_with (first
          | (at_builtin; refine wp_byte rfl (.tmp 79) (.tmp 80) rfl B _ l _ 34 34 rfl rfl (by exact hbuf) rfl L HL.out (by omega) ?_; intro ao1 cap1 w1 hb1 hbel1)
          | (at_builtin; refine wp_text rfl (.tmp 84) (.tmp 85) rfl B _ (l ++ [34]) _ rfl (by exact hb1) s rfl (L + 1) (by rw [List.length_append, HL.out]; rfl) (by omega) (by omega) ?_; intro ao2 cap2 w2 hb2 hbel2; have hstr := run_str hb2; rw [hT.out] at hstr; have hm2 := (((hbel.trans hbel1).trans hbel2).cell (p := ⟨0, 0, none⟩) hpos).trans HM.out)
          | (go_at_call 6; refine (zz_any T c.data.toList s.data.toList p.size m _ hTs hstT.out HSUF.out (by exact hm2) (L + 1) cnt hN hcnt).mono ?_; rintro e w3 ⟨⟨f, hf, rfl⟩, hbel3⟩; have HF := hide hf; clear hf)
          | (at_make; refine wp_make _ rfl _ _ rfl w3.heap.size _ c.size rfl rfl rfl (by omega) (Nat.le_refl _) ?_; intro w4 hb4 hbel4))
        clear hstr hm2 hb1 hb2
        go_loopw [14, 15, 16] (fun vw vn vk wr => ∃ (k L2 nl : Nat) (ao : Option Addr) (cap : Nat) (l2 : List UInt8), vk = .int .i64 k ∧ k ≤ c.size ∧ vn = .int .i64 nl ∧ nl ≤ c.size ∧ vw = .slice ao L2 cap ∧ L2 ≤ 262144 ∧ Hid (l2.length = L2) ∧ Hid (l2 ++ crlf (c.data.toList.drop k) = crlf c.data.toList) ∧ Hid (nl + (c.data.toList.drop k).count 10 = cnt) ∧ Buf w3.heap.size (.slice ao L2 cap) l2 wr ∧ Below w3.heap.size w3 wr) (fun _ _ vk _ => c.size - (intOf vk).toNat)
        case atStart => exact ⟨0, 0, 0, _, c.size, [], rfl, Nat.zero_le _, rfl, Nat.zero_le _, rfl, by omega, rfl, rfl, by show _ = _; rw [Nat.zero_add]; exact hcnt.out, hb4, hbel4⟩
        case round =>
          clear hb4 hbel4
          obtain ⟨k, L2, nl, ao, cap, l2, rfl, hk, rfl, hnl, rfl, hL2, HL2, HW, HC, hbuf2, hbelw⟩ := hrel
          by_cases hlt : k < c.size
          · have HCK : Hid (c.data.toList[k]? = some c[k]) := List.getElem?_eq_getElem (l := c.data.toList) hlt
            by_cases h10 : ((c[k].toNat : Int) == 10) = true
            · have HQ := hide (byte_eq (n := 10) (by simpa using h10))
              have h13 : ((c[k].toNat : Int) == 13) = false := by rw [HQ.out]; rfl
              have HW' := hide (want_keep HW.out HCK.out (by rw [HQ.out]; intro h; exact absurd h.1 (by decide)))
              have HC' : Hid (nl + 1 + (c.data.toList.drop (k + 1)).count 10 = cnt) := cnt_hit HC.out (by rw [HCK.out, HQ.out])
              go_wp2_with (first
                | (at_builtin; refine wp_byte rfl (.tmp 130) (.tmp 134) rfl w3.heap.size _ l2 _ _ c[k] rfl rfl (by exact hbuf2) rfl L2 HL2.out (by omega) ?_; intro ao5 cap5 w5 hb5 hbel5))
              go_roundw
              case rel =>
                have HL' : (l2 ++ [c[k]]).length = L2 + 1 := by simp [HL2.out]
                have hbd := want_bound HW'.out HL'
                have hcb := cnt_bound HC'.out hcnt.out
                rw [list_len] at hbd hcb
                exact ⟨k + 1, L2 + 1, nl + 1, ao5, cap5, _, by go_num, by omega, by go_num, by omega, rfl, by omega, HL', HW'.out, HC'.out, hb5, hbelw.trans hbel5⟩
              case measure => simp [intOf]; omega
            · have h10' : ((c[k].toNat : Int) == 10) = false := by simpa using h10
              clear h10
              have HN10 := hide (byte_ne (n := 10) (by simpa using h10'))
              have HC' := hide (cnt_miss HC.out HCK.out HN10.out)
              by_cases hskip : ((c[k].toNat : Int) == 13) = true ∧ ∃ h : k + 1 < c.size, ((c[k + 1].toNat : Int) == 10) = true
              · obtain ⟨h13, hk1, hn10⟩ := hskip
                have hk1' : (k : Int) + 1 < (c.size : Int) := by omega
                have HQ := hide (byte_eq (n := 13) (by simpa using h13))
                have HQ2 := hide (byte_eq (n := 10) (by simpa using hn10))
                have HCK2 : Hid (c.data.toList[k + 1]? = some c[k + 1]) := List.getElem?_eq_getElem (l := c.data.toList) hk1
                have HW' := hide (want_skip HW.out (by rw [HCK.out, HQ.out]) (by rw [HCK2.out, HQ2.out]))
                go_wp2_with fail
                go_roundw
                case rel => exact ⟨k + 1, L2, nl, ao, cap, l2, by go_num, by omega, rfl, hnl, rfl, hL2, HL2, HW'.out, HC'.out, hbuf2, hbelw⟩
                case measure => simp [intOf]; omega
              · have HW' := hide (want_keep HW.out HCK.out (no_skip hlt hskip))
                by_cases h13 : ((c[k].toNat : Int) == 13) = true
                · by_cases hk1 : k + 1 < c.size
                  · have hk1' : (k : Int) + 1 < (c.size : Int) := by omega
                    have hn10 : ((c[k + 1].toNat : Int) == 10) = false := by
                      cases e : ((c[k + 1].toNat : Int) == 10) with
                      | false => rfl
                      | true => exact absurd ⟨h13, hk1, e⟩ hskip
                    clear hskip
                    go_wp2_with (first
                      | (at_builtin; refine wp_byte rfl (.tmp 130) (.tmp 134) rfl w3.heap.size _ l2 _ _ c[k] rfl rfl (by exact hbuf2) rfl L2 HL2.out (by omega) ?_; intro ao5 cap5 w5 hb5 hbel5))
                    go_roundw
                    case rel =>
                      have HL' : (l2 ++ [c[k]]).length = L2 + 1 := by simp [HL2.out]
                      have hbd := want_bound HW'.out HL'
                      rw [list_len] at hbd
                      exact ⟨k + 1, L2 + 1, nl, ao5, cap5, _, by go_num, by omega, rfl, hnl, rfl, by omega, HL', HW'.out, HC'.out, hb5, hbelw.trans hbel5⟩
                    case measure => simp [intOf]; omega
                  · have hk1' : ¬ (k : Int) + 1 < (c.size : Int) := by omega
                    have hk1'' : decide ((k : Int) + 1 < (c.size : Int)) = false := decide_eq_false hk1'
                    clear hskip
                    go_wp2_with (first
                      | (at_builtin; refine wp_byte rfl (.tmp 130) (.tmp 134) rfl w3.heap.size _ l2 _ _ c[k] rfl rfl (by exact hbuf2) rfl L2 HL2.out (by omega) ?_; intro ao5 cap5 w5 hb5 hbel5))
                    go_roundw
                    case rel =>
                      have HL' : (l2 ++ [c[k]]).length = L2 + 1 := by simp [HL2.out]
                      have hbd := want_bound HW'.out HL'
                      rw [list_len] at hbd
                      exact ⟨k + 1, L2 + 1, nl, ao5, cap5, _, by go_num, by omega, rfl, hnl, rfl, by omega, HL', HW'.out, HC'.out, hb5, hbelw.trans hbel5⟩
                    case measure => simp [intOf]; omega
                · have h13' : ((c[k].toNat : Int) == 13) = false := by simpa using h13
                  clear h13 hskip
                  go_wp2_with (first
                    | (at_builtin; refine wp_byte rfl (.tmp 130) (.tmp 134) rfl w3.heap.size _ l2 _ _ c[k] rfl rfl (by exact hbuf2) rfl L2 HL2.out (by omega) ?_; intro ao5 cap5 w5 hb5 hbel5))
                  go_roundw
                  case rel =>
                    have HL' : (l2 ++ [c[k]]).length = L2 + 1 := by simp [HL2.out]
                    have hbd := want_bound HW'.out HL'
                    rw [list_len] at hbd
                    exact ⟨k + 1, L2 + 1, nl, ao5, cap5, _, by go_num, by omega, rfl, hnl, rfl, by omega, HL', HW'.out, HC'.out, hb5, hbelw.trans hbel5⟩
                  case measure => simp [intOf]; omega
          · have hkc2 : k = c.size := by omega
            have hd : c.data.toList.drop k = [] := List.drop_eq_nil_of_le (by rw [list_len]; omega)
            have e1 : l2 = crlf c.data.toList := by have := HW.out; rw [hd] at this; simpa [crlf] using this
            have e2 : nl = cnt := by have := HC.out; rw [hd] at this; simpa using this
            have hstr2 := run_str hbuf2
            have ef : (⟨l2.toArray⟩ : ByteArray) = f := by
              apply ByteArray.ext
              apply Array.ext'
              show l2 = f.data.toList
              rw [e1, HF.out]
            rw [ef] at hstr2
            subst e2
            clear hd e1 ef hkc2
            go_wp2_with fail
            go_ret
            refine ⟨rfl, ?_⟩
            have b12 := (hbel.trans hbel1).trans hbel2
            have z2 := b12.size
            have z3 := hbel3.size
            rw [← hB.out] at z2 ⊢
            exact (b12.trans (hbel3.mono z2)).trans (hbelw.mono (Nat.le_trans z2 z3))

end Go.Proofs.Qxb6612275a
