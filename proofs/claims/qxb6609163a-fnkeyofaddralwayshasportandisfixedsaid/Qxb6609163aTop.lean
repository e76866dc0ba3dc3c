/-
  Seat b6609163a: Port, Hostname, JoinHostPort, hostPort, keyOf, ZZkeyOf.
-/
import Derived.Test.Qxb6609163aMid
namespace Go.Proofs.Qxb6609163a
open Go.RowKit

theorem hide {p : Prop} (h : p) : Hid p := h

theorem isEmpty_size (p : ByteArray) : p.toList.isEmpty = decide (p.size = 0) := by
  rw [ByteArray.toList_eq]
  have h : p.data.toList.length = p.size := rfl
  rw [← h]
  cases p.data.toList <;> simp

theorem run_ibs (s : ByteArray) (c : Int) (w : World) :
    (callFunc 17 #[.string s, .int .u8 c]).run Try.prog w = .ok (.value (.int .i64 (firstIdx s c.toNat.toUInt8))) w := by
  rw [run_callFunc_extern Try.func17 (by kernel_rfl) (by kernel_rfl) (by kernel_rfl) (e := Extern.BytealgIndexByte.indexByte) (by kernel_rfl), run_indexByte_string]
  rfl

set_option maxHeartbeats 400000 in
theorem port_any (b : Nat) (s : ByteArray) (w : World) (hs : s.size ≤ 4194304) (hcell : w.cell? ⟨b, 3, none⟩ = some (.string s)) :
    Calls Try.prog 13 #[.pointer (some ⟨b, 0, none⟩)] w fun e w' => (∃ p : ByteArray, p.toList.isEmpty = !endsB s ∧ e = .returned (.string p)) ∧ Below w.heap.size w w' := by
  go_enter Try.func13, Try.ntmps13
  go_wp2_with (go_at_call 16; refine (split_any _ _ hs).mono ?_; rintro e w1 ⟨⟨h, p, hh, hp, rfl⟩, hb⟩; have HP := hide hp; clear hp)
  go_ret
  exact ⟨⟨p, by rw [← HP.out, ← isEmpty_size], rfl⟩, hb⟩

set_option maxHeartbeats 400000 in
theorem hostname_any (b : Nat) (s : ByteArray) (w : World) (hs : s.size ≤ 4194304) (hcell : w.cell? ⟨b, 3, none⟩ = some (.string s)) :
    Calls Try.prog 15 #[.pointer (some ⟨b, 0, none⟩)] w fun e w' => (∃ h : ByteArray, h.size ≤ s.size ∧ e = .returned (.string h)) ∧ Below w.heap.size w w' := by
  go_enter Try.func15, Try.ntmps15
  go_wp2_with (go_at_call 16; refine (split_any _ _ hs).mono ?_; rintro e w1 ⟨⟨h, p, hh, hp, rfl⟩, hb⟩; clear hp)
  go_ret
  exact ⟨⟨h, hh, rfl⟩, hb⟩

/-- 'a' is some text, a colon and 'p' -/
def Joined (n : Nat) (p a : ByteArray) : Prop := ∃ X : ByteArray, X.size ≤ n ∧ a = X ++ (⟨#[58]⟩ ++ p)

theorem joined_one (h p : ByteArray) : Joined (h.size + 2) p (h ++ ⟨#[58]⟩ ++ p) := ⟨h, by omega, ByteArray.append_assoc⟩
theorem joined_two (h p : ByteArray) : Joined (h.size + 2) p (⟨#[91]⟩ ++ h ++ ⟨#[93, 58]⟩ ++ p) := by
  refine ⟨⟨#[91]⟩ ++ h ++ ⟨#[93]⟩, ?_, ?_⟩
  · simp only [ByteArray.size_append]
    show 1 + h.size + 1 ≤ _
    omega
  · have e : (⟨#[93, 58]⟩ : ByteArray) = ⟨#[93]⟩ ++ ⟨#[58]⟩ := by rfl
    rw [e]
    simp only [ByteArray.append_assoc]

set_option maxHeartbeats 400000 in
theorem join_any (h p : ByteArray) (w : World) (hh : h.size ≤ 4194304) (hp : p.size ≤ 3) :
    Calls Try.prog 14 #[.string h, .string p] w fun e w' => (∃ a, Joined (h.size + 2) p a ∧ e = .returned (.string a)) ∧ w' = w := by
  have hx := fun w => run_ibs h 58 w
  by_cases h0 : 0 ≤ firstIdx h 58
  · go_enter Try.func14, Try.ntmps14
    go_wp2
    go_ret
    exact ⟨⟨_, joined_two h p, rfl⟩, rfl⟩
  · go_enter Try.func14, Try.ntmps14
    go_wp2
    go_ret
    exact ⟨⟨_, joined_one h p, rfl⟩, rfl⟩

set_option maxHeartbeats 400000 in
theorem hostPort_yes (b : Nat) (s : ByteArray) (w : World) (hs : s.size ≤ 4194000) (hb : b < w.heap.size) (hcell : w.cell? ⟨b, 3, none⟩ = some (.string s)) (he : endsB s = true) :
    Calls Try.prog 12 #[.pointer (some ⟨b, 0, none⟩)] w fun e w' => e = .returned (.string s) ∧ Below w.heap.size w w' := by
  have HE := hide he
  clear he
  go_enter Try.func12, Try.ntmps12
  go_wp2_with (go_at_call 13; refine (port_any b s _ (by omega) (by exact hcell)).mono ?_; rintro e w1 ⟨⟨p, hp, rfl⟩, hb1⟩; rw [HE.out] at hp; have hc3 : w1.cell? ⟨b, 3, none⟩ = some (.string s) := (hb1.cell (p := ⟨b, 3, none⟩) hb).trans hcell)
  go_ret
  exact ⟨rfl, hb1⟩

def portOf (q : Bool) : ByteArray := if q then ⟨#[52, 52, 51]⟩ else ⟨#[56, 48]⟩

set_option maxHeartbeats 400000 in
theorem hostPort_no (b : Nat) (a s : ByteArray) (q : Bool) (w : World) (hs : s.size ≤ 4194000) (hb : b < w.heap.size) (hcell0 : w.cell? ⟨b, 0, none⟩ = some (.string a)) (hcell : w.cell? ⟨b, 3, none⟩ = some (.string s)) (he : endsB s = false)
    (hq : (a.toList == [104, 116, 116, 112, 115]) = q) :
    Calls Try.prog 12 #[.pointer (some ⟨b, 0, none⟩)] w fun e w' => (∃ x, Joined (s.size + 2) (portOf q) x ∧ e = .returned (.string x)) ∧ Below w.heap.size w w' := by
  have HE := hide he
  clear he
  cases q
  all_goals
    go_enter Try.func12, Try.ntmps12
    go_wp2_with (first
      | (go_at_call 13; refine (port_any b s _ (by omega) (by exact hcell)).mono ?_; rintro e w1 ⟨⟨p, hp, rfl⟩, hb1⟩; rw [HE.out] at hp; have hc3 : w1.cell? ⟨b, 3, none⟩ = some (.string s) := (hb1.cell (p := ⟨b, 3, none⟩) hb).trans hcell; have hc0 : w1.cell? ⟨b, 0, none⟩ = some (.string a) := (hb1.cell (p := ⟨b, 0, none⟩) hb).trans hcell0)
      | (go_at_call 15; refine (hostname_any b s _ (by omega) (by exact hc3)).mono ?_; rintro e w2 ⟨⟨h, hh, rfl⟩, hb2⟩)
      | (go_at_call 14; refine (join_any h _ _ (by omega) (by decide)).mono ?_; rintro e w3 ⟨⟨x, hx, rfl⟩, rfl⟩))
    go_ret
    refine ⟨⟨x, ?_, rfl⟩, hb1.trans (hb2.mono hb1.size)⟩
    obtain ⟨X, h1, h2⟩ := hx
    exact ⟨X, by omega, h2⟩

end Go.Proofs.Qxb6609163a
