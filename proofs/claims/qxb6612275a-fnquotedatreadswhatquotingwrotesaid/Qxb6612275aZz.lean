/-
  Seat b6612275a: ZZquotedAt, zzBytes.
-/
import Derived.Test.Qxb6612275aQuoted
namespace Go.Proofs.Qxb6612275a
open Go.RowKit

theorem heap_pos {w : World} {m : Int} (h : w.cell? ⟨0, 0, none⟩ = some (.int .i64 m)) : 0 < w.heap.size := by
  rcases Nat.eq_zero_or_pos w.heap.size with e | e
  · exfalso
    have : w.heap[0]? = none := by simp [e]
    simp [World.cell?, this] at h
  · exact e

set_option maxHeartbeats 400000 in
theorem zz_any (s : ByteArray) (content suf : List UInt8) (i : Nat) (m : Int) (w : World) (hs : s.size ≤ 2097152) (hst : St s.data.toList content suf (i + 1) [] content) (hsuf : suf.head? ≠ some 34) (hm : w.cell? ⟨0, 0, none⟩ = some (.int .i64 m)) (N cnt : Nat) (hN : Hid (i + 1 + (quote content).length + 1 = N)) (hcnt : Hid (content.count 10 = cnt)) :
    Calls Try.prog 6 #[.string s, .int .i64 i] w fun e w' => (∃ f : ByteArray, f.data.toList = crlf content ∧ e = .returned (.tuple #[.string f, .int .i64 (N : Int), .int .i64 (cnt : Int), .bool true])) ∧ Below w.heap.size w w' := by
  have HST := hide hst
  have HF := hide hsuf
  have hpos := heap_pos hm
  clear hst hsuf
  have hA : ∀ o, Below w.heap.size w (w.alloc o) := fun o => (Below.refl _ _).alloc (Nat.le_refl _) o
  have hmw : ∀ o, (w.alloc o).cell? ⟨0, 0, none⟩ = some (.int .i64 m) := fun o => ((hA o).cell (p := ⟨0, 0, none⟩) hpos).trans hm
  have HA := hide hA
  clear hA
  go_enter Try.func6, Try.ntmps6
  go_wp2_with (go_at_call 9; refine (quoted_any w.heap.size s content suf i m _ hs HST.out HF.out (by simp) hpos (by simp [go_sem]) (by simp [go_sem]) (by simp [go_sem]) (by exact hmw _)).mono ?_; rintro e w1 ⟨⟨f, hf, rfl⟩, hb1⟩; rw [hN.out, hcnt.out]; have HFF := hide hf; clear hf)
  exact bodyPost_ret (v := .tuple #[.string f, .int .i64 (N : Int), .int .i64 (cnt : Int), .bool true]) (by simp [results, Try.results6, go_sem]) rfl ⟨⟨f, HFF.out, rfl⟩, (HA.out _).trans hb1⟩

set_option maxHeartbeats 400000 in
theorem bytes_yes (s t u : ByteArray) (w : World) (h : s.size + t.size + u.size ≤ 1048576) :
    Calls Try.prog 8 #[.string s, .string t, .string u] w fun e w' => e = .returned (.bool true) ∧ w' = w := by
  go_enter Try.func8, Try.ntmps8
  go_wp2
  go_ret
  exact ⟨rfl, rfl⟩

set_option maxHeartbeats 400000 in
theorem bytes_no (s t u : ByteArray) (w : World) (hs : s.size ≤ maxLen) (ht : t.size ≤ maxLen) (hu : u.size ≤ maxLen) (h : 1048576 < s.size + t.size + u.size) :
    Calls Try.prog 8 #[.string s, .string t, .string u] w fun e w' => e = .returned (.bool false) ∧ w' = w := by
  unfold maxLen at hs ht hu
  by_cases h1 : 1048576 < (s.size : Int)
  · go_enter Try.func8, Try.ntmps8
    go_wp2
    go_ret
    exact ⟨rfl, rfl⟩
  · by_cases h2 : 1048576 < (t.size : Int)
    · go_enter Try.func8, Try.ntmps8
      go_wp2
      go_ret
      exact ⟨rfl, rfl⟩
    · by_cases h3 : 1048576 < (s.size : Int) + (t.size : Int)
      · go_enter Try.func8, Try.ntmps8
        go_wp2
        go_ret
        exact ⟨rfl, rfl⟩
      · by_cases h4 : 1048576 < (u.size : Int)
        · go_enter Try.func8, Try.ntmps8
          go_wp2
          go_ret
          exact ⟨rfl, rfl⟩
        · go_enter Try.func8, Try.ntmps8
          go_wp2
          go_ret
          exact ⟨rfl, rfl⟩

end Go.Proofs.Qxb6612275a
