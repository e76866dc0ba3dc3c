/-
  Seat b6609163a: keyOf, ZZkeyOf.
-/
import Derived.Test.Qxb6609163aTop
import Derived.Deep.RegionWith
namespace Go.Proofs.Qxb6609163a
open Go.RowKit

def KeyAddr (q : Bool) (s x : ByteArray) : Prop := (endsB s = true ∧ x = s) ∨ (endsB s = false ∧ Joined (s.size + 2) (portOf q) x)

theorem hostPort_any (b : Nat) (a s : ByteArray) (q : Bool) (w : World) (hs : s.size ≤ 4194000) (hb : b < w.heap.size) (hcell0 : w.cell? ⟨b, 0, none⟩ = some (.string a)) (hcell : w.cell? ⟨b, 3, none⟩ = some (.string s))
    (hq : (a.toList == [104, 116, 116, 112, 115]) = q) :
    Calls Try.prog 12 #[.pointer (some ⟨b, 0, none⟩)] w fun e w' => (∃ x, KeyAddr q s x ∧ e = .returned (.string x)) ∧ Below w.heap.size w w' := by
  cases he : endsB s with
  | true =>
    refine (hostPort_yes b s w hs hb hcell he).mono ?_
    rintro e w' ⟨rfl, h⟩
    exact ⟨⟨s, Or.inl ⟨he, rfl⟩, rfl⟩, h⟩
  | false =>
    refine (hostPort_no b a s q w hs hb hcell0 hcell he hq).mono ?_
    rintro e w' ⟨⟨x, hx, rfl⟩, h⟩
    exact ⟨⟨x, Or.inr ⟨he, hx⟩, rfl⟩, h⟩

theorem bfacts {w w1 : World} {c : Array Value} {t : TypeId} (hb : Below (w.alloc (.cells c t)).heap.size (w.alloc (.cells c t)).drew w1) :
    (∀ k o, k < w.heap.size + 1 → w1.cell? ⟨k, o, none⟩ = (w.alloc (.cells c t)).cell? ⟨k, o, none⟩) ∧ (∀ k o, k < w.heap.size + 1 → w1.frozen? ⟨k, o, none⟩ = (w.alloc (.cells c t)).frozen? ⟨k, o, none⟩) ∧ w.heap.size < w1.heap.size := by
  have e : (w.alloc (.cells c t)).heap.size = w.heap.size + 1 := by simp
  rw [e] at hb
  refine ⟨fun k o h => hb.cell (p := ⟨k, o, none⟩) h, fun k o h => hb.frozen (p := ⟨k, o, none⟩) h, ?_⟩
  have := hb.size
  have e2 : (w.alloc (.cells c t)).drew.heap.size = w.heap.size + 1 := e
  omega

set_option maxHeartbeats 400000 in
theorem keyOf_any (b : Nat) (a s : ByteArray) (q : Bool) (w : World) (hs : s.size ≤ 4194000) (hb : b < w.heap.size) (hcell0 : w.cell? ⟨b, 0, none⟩ = some (.string a)) (hcell : w.cell? ⟨b, 3, none⟩ = some (.string s))
    (hq : (a.toList == [104, 116, 116, 112, 115]) = q) :
    Calls Try.prog 9 #[.pointer (some ⟨b, 0, none⟩)] w fun e w' => (∃ x, KeyAddr q s x ∧ e = .returned (.agg #[.string x, .bool q])) ∧ Below w.heap.size w w' := by
  have hA : ∀ o, Below w.heap.size w (w.alloc o) := fun o => (Below.refl _ _).alloc (Nat.le_refl _) o
  have HA := hide hA
  have hw0 : ∀ o, (w.alloc o).cell? ⟨b, 0, none⟩ = some (.string a) := fun o => ((hA o).cell (p := ⟨b, 0, none⟩) hb).trans hcell0
  have hw3 : ∀ o, (w.alloc o).cell? ⟨b, 3, none⟩ = some (.string s) := fun o => ((hA o).cell (p := ⟨b, 3, none⟩) hb).trans hcell
  clear hA
  go_enter Try.func9, Try.ntmps9
  go_wp2_with fail
  go_region_with (go_at_call 12; refine (hostPort_any b a s q _ hs (by simp; omega) (by exact hw0 _) (by exact hw3 _) hq).mono ?_; rintro e w1 ⟨⟨x, hx, rfl⟩, hb1⟩; have HX := hide hx; clear hx; have HB := hide hb1; obtain ⟨hc, hf, hsz⟩ := bfacts hb1; clear hb1)
  all_goals
    go_wp2
    exact bodyPost_ret (v := .agg #[.string x, .bool q]) (by simp [results, Try.results9, go_sem, hc]) rfl ⟨⟨x, HX.out, rfl⟩, (((HA.out _).drew.trans (HB.out.mono (by simp))).setCell (Nat.le_refl _) _).setCell (Nat.le_refl _) _⟩

set_option maxHeartbeats 400000 in
theorem zzkey_any (a s : ByteArray) (q : Bool) (w : World) (hs : s.size ≤ 4194000)
    (hq : (a.toList == [104, 116, 116, 112, 115]) = q) :
    Calls Try.prog 5 #[.string a, .string s] w fun e w' => (∃ x, KeyAddr q s x ∧ e = .returned (.tuple #[.string x, .bool q])) ∧ Below w.heap.size w w' := by
  go_enter Try.func5, Try.ntmps5
  go_wp2_with (go_at_call 9; refine (keyOf_any w.heap.size a s q _ hs (by simp) (by simp [go_sem]) (by simp [go_sem]) hq).mono ?_; rintro e w1 ⟨⟨x, hx, rfl⟩, hb1⟩; have HX := hide hx; clear hx; have HB := hide hb1; clear hb1)
  go_quiet (fail)
  go_wp2
  go_ret2
  refine ⟨⟨x, HX.out, rfl⟩, below_drewN ((((Below.refl _ _).alloc (Nat.le_refl _) _).trans (HB.out.mono (by simp))).alloc ?_ _) _⟩
  have := HB.out.size
  simp at this
  omega

end Go.Proofs.Qxb6609163a
