/-
  Seat b6612275a: the walk of appendLines.
-/
import Derived.Test.Qxb6612275aBuf
namespace Go.Proofs.Qxb6612275a
open Go.RowKit

def strLen : Value → Nat | .string s => s.size | _ => 0

theorem list_len (s : ByteArray) : s.data.toList.length = s.size := rfl

theorem cutOf (t : ByteArray) (ht : t.size ≤ 4194304) : ∃ (bef aft : ByteArray) (f : Bool),
    (∀ (w : World) (m : Int), w.cell? ⟨0, 0, none⟩ = some (.int .i64 m) → Calls Try.prog 17 #[.string t, .string ⟨#[13, 10]⟩] w fun e w' => e = .returned (.tuple #[.string bef, .string aft, .bool f]) ∧ ∃ n, w' = w.drewN n) ∧
    ((f = false ∧ bef.data.toList = crlf t.data.toList ∧ bef.size ≤ t.size) ∨ (f = true ∧ crlf t.data.toList = bef.data.toList ++ 10 :: crlf aft.data.toList ∧ bef.size + 1 + aft.size < t.size)) := by
  refine ⟨⟨(Lib.cut t.data.toList [13, 10]).1.toArray⟩, ⟨(Lib.cut t.data.toList [13, 10]).2.1.toArray⟩, (Lib.cut t.data.toList [13, 10]).2.2, fun w m hm => Try.strings_Cut t ⟨#[13, 10]⟩ m w (by omega) hm, ?_⟩
  cases hf : (Lib.cut t.data.toList [13, 10]).2.2 with
  | false =>
    obtain ⟨h1, h2⟩ := crlf_cut_no _ hf
    refine Or.inl ⟨rfl, ?_, ?_⟩
    · show (Lib.cut t.data.toList [13, 10]).1 = _
      rw [h1, h2]
    · show (Lib.cut t.data.toList [13, 10]).1.toArray.size ≤ _
      rw [h1]
      exact Nat.le_refl _
  | true =>
    obtain ⟨h1, h2⟩ := crlf_cut_yes _ hf
    exact Or.inr ⟨rfl, h1, h2⟩

set_option maxHeartbeats 1000000 in
theorem lines_any (B : Nat) (v : Value) (q : List UInt8) (t : ByteArray) (m : Int) (w : World) (hb : Buf B v q w) (hB : 0 < B) (hm : w.cell? ⟨0, 0, none⟩ = some (.int .i64 m)) (hlen : q.length + t.size ≤ 4194304) (r : List UInt8) (L : Nat) (hr : Hid (q ++ crlf t.data.toList = r)) (hL : Hid (r.length = L)) :
    Calls Try.prog 12 #[v, .string t] w fun e w' => ∃ ao cap, e = .returned (.slice ao L cap) ∧ Buf B (.slice ao L cap) r w' ∧ Below B w w' := by
  go_enter Try.func12, Try.ntmps12
  go_wp2
  go_loopw [0, 1] (fun vb vt wr => ∃ (q' : List UInt8) (t' : ByteArray), vt = .string t' ∧ Buf B vb q' wr ∧ Below B w wr ∧ Hid (q' ++ crlf t'.data.toList = r) ∧ q'.length + t'.size ≤ 4194304) (fun _ vt _ => strLen vt)
  case atStart => exact ⟨q, t, rfl, hb, Below.refl _ _, hr, hlen⟩
  case round =>
    obtain ⟨q', t', rfl, hb', hbel, HQ, hl'⟩ := hrel
    have hmr := (hbel.cell (p := ⟨0, 0, none⟩) hB).trans hm
    obtain ⟨bef, aft, f, hcut, hcase⟩ := cutOf t' (by omega)
    have HC := hide hcut
    clear hcut
    rcases hcase with ⟨rfl, h1, h2⟩ | ⟨rfl, h1, h2⟩
    · have H1 := hide h1
      clear h1
      go_wp2_with (first
        | (go_at_call 17; refine (HC.out _ m (by exact hmr)).mono ?_; rintro e w1 ⟨rfl, n, rfl⟩)
        | (at_builtin; refine wp_text rfl (.tmp 14) (.tmp 15) rfl B _ q' _ rfl (by exact hb'.drewN _) bef rfl q'.length rfl (by omega) (by omega) ?_; intro ao1 cap1 w1 hb1 hbel1))
      go_ret
      refine ⟨ao1, cap1, ?_, ?_, (below_drewN hbel _).trans hbel1⟩
      · rw [← hL.out, ← HQ.out, ← H1.out, List.length_append]; rfl
      · rw [← hL.out, ← HQ.out, ← H1.out, List.length_append]; exact hb1
    · have H1 := hide h1
      clear h1
      go_wp2_with (first
        | (go_at_call 17; refine (HC.out _ m (by exact hmr)).mono ?_; rintro e w1 ⟨rfl, n, rfl⟩)
        | (at_builtin; refine wp_text rfl (.tmp 14) (.tmp 15) rfl B _ q' _ rfl (by exact hb'.drewN _) bef rfl q'.length rfl (by omega) (by omega) ?_; intro ao1 cap1 w1 hb1 hbel1)
        | (at_builtin; refine wp_byte rfl (.tmp 20) (.tmp 21) rfl B _ (q' ++ bef.data.toList) _ 10 10 rfl rfl (by exact hb1) rfl (q'.length + bef.size) (by rw [List.length_append, list_len]) (by omega) ?_; intro ao2 cap2 w2 hb2 hbel2))
      go_roundw
      case rel =>
        refine ⟨q' ++ bef.data.toList ++ [10], aft, rfl, hb2, ((below_drewN hbel _).trans hbel1).trans hbel2, ?_, ?_⟩
        · show _ = _
          rw [← HQ.out, H1.out]
          simp
        · simp only [List.length_append, list_len, List.length_cons, List.length_nil]
          omega
      case measure =>
        simp only [strLen]
        omega

end Go.Proofs.Qxb6612275a
