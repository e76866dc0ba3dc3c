/-
  Seat b6612627a: the walks of outermost, ZZoutermost, isOutermostOf, hasClose.
-/
import Derived.Test.Qxb6612627aRows
import Derived.Test.Qxb6612627aPlain
import Derived.Test.Qxb6612627aShelf
import Derived.WalkKit
import Derived.WalkSpells
import Derived.WalkSmall
import Derived.Deep.QuietTactic
import Derived.BigQuiet
namespace Go.Proofs.Qxb6612627a
open Go.RowKit

theorem hide {p : Prop} (h : p) : Hid p := h
theorem ret_bool {a b : Bool} (h : a = b) : Ending.returned (.bool a) = .returned (.bool b) := by rw [h]
theorem list_len (s : ByteArray) : s.data.toList.length = s.size := rfl
theorem list_at (s : ByteArray) (k : Nat) (h : k < s.size) : s.data.toList[k]? = some s[k] := List.getElem?_eq_getElem (l := s.data.toList) h

theorem heap_pos {w : World} {m : Int} (h : w.cell? ⟨0, 0, none⟩ = some (.int .i64 m)) : 0 < w.heap.size := by
  rcases Nat.eq_zero_or_pos w.heap.size with e | e
  · exfalso
    have : w.heap[0]? = none := by simp [e]
    simp [World.cell?, this] at h
  · exact e

def aggSize : Value → Nat
  | .agg cs => cs.size
  | _ => 0

theorem info54 : ((Try.prog.info? 54).bind fun i => i.zero).map aggSize = some 118 := by kernel_rfl

theorem zero54 : ∃ cs : Array Value, cs.size = 118 ∧ ∀ w, (zeroValue 54).run Try.prog w = .ok (.agg cs) w := by
  obtain ⟨v, hv, hs⟩ := Option.map_eq_some_iff.1 info54
  obtain ⟨i, hi, hz⟩ := Option.bind_eq_some_iff.1 hv
  cases v with
  | agg cs => exact ⟨cs, hs, fun w => by simp [zeroValue, typeInfo, hi, hz]⟩
  | _ => simp [aggSize] at hs

theorem cutOf (t : ByteArray) (ht : t.size ≤ 4194304) : ∃ (bef aft : ByteArray) (f : Bool),
    (∀ (w : World) (m : Int), w.cell? ⟨0, 0, none⟩ = some (.int .i64 m) → Calls Try.prog 15 #[.string t, .string ⟨#[62]⟩] w fun e w' => e = .returned (.tuple #[.string bef, .string aft, .bool f]) ∧ ∃ n, w' = w.drewN n) ∧
    bef.data.toList = hd t.data.toList := by
  refine ⟨⟨(Lib.cut t.data.toList [62]).1.toArray⟩, ⟨(Lib.cut t.data.toList [62]).2.1.toArray⟩, (Lib.cut t.data.toList [62]).2.2, fun w m hm => Try.strings_Cut t ⟨#[62]⟩ m w (by omega) hm, ?_⟩
  show (Lib.cut t.data.toList [62]).1 = _
  exact cut_hd _

theorem tail_list (s : ByteArray) (k : Nat) : (s.extract k s.size).data.toList = s.data.toList.drop k := by
  rw [← ByteArray.toList_eq, Lib.extract_toList, List.take_of_length_le (by rw [List.length_drop, list_len]; exact Nat.le_refl _)]

set_option maxRecDepth 100000 in
set_option maxHeartbeats 400000 in
theorem out_any (f : ByteArray) (hf : f.size ≤ 4194304) (ca : Array Value) (hsz : ca.size = 118) (hca : ca[20] = .string f) (m : Int) (w : World) (hm : w.cell? ⟨0, 0, none⟩ = some (.int .i64 m)) :
    Calls Try.prog 13 #[.agg ca] w fun e w' => (∃ r : ByteArray, r.data.toList = (hd f.data.toList).drop 1 ∧ e = .returned (.string r)) ∧ Below w.heap.size w w' := by
  have hpos := heap_pos hm
  have hA : ∀ o, Below w.heap.size w (w.alloc o) := fun o => (Below.refl _ _).alloc (Nat.le_refl _) o
  have hmw : ∀ o, (w.alloc o).cell? ⟨0, 0, none⟩ = some (.int .i64 m) := fun o => ((hA o).cell (p := ⟨0, 0, none⟩) hpos).trans hm
  have HA := hide hA
  clear hA hm
  obtain ⟨bef, aft, fl, hcut, hbef⟩ := cutOf f hf
  have HC := hide hcut
  have HB := hide hbef
  clear hcut hbef
  by_cases h0 : bef.size = 0
  · have he : bef.toList.isEmpty = true := by
      rw [ByteArray.toList_eq, List.isEmpty_iff]
      exact List.length_eq_zero_iff.1 h0
    have HE : Hid (hd f.data.toList = []) := by
      show _ = _
      rw [← HB.out]
      exact List.length_eq_zero_iff.1 h0
    clear h0
    go_enter Try.func13, Try.ntmps13
    go_wp2_with (go_at_call 15; refine (HC.out _ m (by exact hmw _)).mono ?_; rintro e w1 ⟨rfl, n, rfl⟩)
    go_ret
    refine ⟨⟨⟨#[]⟩, ?_, rfl⟩, below_drewN (HA.out _) _⟩
    rw [HE.out]; rfl
  · have he : bef.toList.isEmpty = false := by
      rw [ByteArray.toList_eq]
      cases hx : bef.data.toList with
      | nil => exact absurd (by rw [← list_len, hx]; rfl) h0
      | cons _ _ => rfl
    have h1 : (1 : Int) ≤ bef.size := by omega
    clear h0
    go_enter Try.func13, Try.ntmps13
    go_wp2_with (go_at_call 15; refine (HC.out _ m (by exact hmw _)).mono ?_; rintro e w1 ⟨rfl, n, rfl⟩)
    go_ret
    refine ⟨⟨bef.extract 1 bef.size, ?_, rfl⟩, below_drewN (HA.out _) _⟩
    rw [tail_list, HB.out]

set_option maxRecDepth 100000 in
set_option maxHeartbeats 400000 in
theorem zz_any (f : ByteArray) (hf : f.size ≤ 4194304) (m : Int) (w : World) (hm : w.cell? ⟨0, 0, none⟩ = some (.int .i64 m)) :
    Calls Try.prog 7 #[.string f] w fun e w' => (∃ r : ByteArray, r.data.toList = (hd f.data.toList).drop 1 ∧ e = .returned (.string r)) ∧ Below w.heap.size w w' := by
  have HM := hide hm
  clear hm
  obtain ⟨cs, hcs, hz⟩ := zero54
  go_enter Try.func7, Try.ntmps7
  go_wp2_with (go_at_call 13; refine (out_any f hf _ (by simp [hcs]) (by simp) m _ HM.out).mono ?_; rintro e w1 ⟨⟨r, hr, rfl⟩, hb⟩; have HR := hide hr; clear hr)
  go_ret
  exact ⟨⟨r, HR.out, rfl⟩, hb⟩

end Go.Proofs.Qxb6612627a
