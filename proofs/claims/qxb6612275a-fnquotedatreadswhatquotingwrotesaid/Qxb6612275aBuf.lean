/-
  Seat b6612275a: a slice of bytes that the call owns, and the laws of append and string(..) at this program.
-/
import Derived.Test.Qxb6612275aRows
import Derived.Test.Qxb6612275aPlain
import Derived.Test.Qxb6612275aShelf
import Derived.WalkKit
import Derived.WalkSpells
import Derived.WalkSmall
import Derived.Lib.AppendStr
import Derived.Laws.IdiomStrings
import Derived.Deep.QuietTactic
import Derived.BigQuiet
namespace Go.Proofs.Qxb6612275a
open Go.RowKit

theorem hide {p : Prop} (h : p) : Hid p := h
theorem ret_bool {a b : Bool} (h : a = b) : Ending.returned (.bool a) = .returned (.bool b) := by rw [h]
theorem data_at (s : ByteArray) (k : Nat) (h : k < s.size) : s.data[k]! = s[k] := by
  have h' : k < s.data.size := h
  rw [getElem!_pos s.data k h']; rfl

def bc (l : List UInt8) : List Value := l.map fun b => Value.int .u8 (b.toNat : Int)
theorem bc_len (l : List UInt8) : (bc l).length = l.length := by simp [bc]

/-- in w the slice v owns a row, among the blocks from B on, that holds the bytes l -/
def Buf (B : Nat) (v : Value) (l : List UInt8) (w : World) : Prop := w.ownsRow B 5 1 v l.length (bc l) ∧ B ≤ w.heap.size

theorem info5 : (Try.prog.info? 5).map (fun i => (i.zero, i.size, i.bytes)) = some (some (.int .u8 0), 1, 1) := by kernel_rfl

theorem Buf.nil (B : Nat) (w : World) (h : B ≤ w.heap.size) : Buf B (.slice none 0 0) [] w := ⟨World.ownsRow_nil _ _ _ _, h⟩

theorem Buf.alloc {B : Nat} {v : Value} {l : List UInt8} {w : World} (h : Buf B v l w) (o : Obj) : Buf B v l (w.alloc o) :=
  ⟨h.1.alloc o, Nat.le_trans h.2 (by simp)⟩

theorem Buf.drewN {B : Nat} {v : Value} {l : List UInt8} {w : World} (h : Buf B v l w) (n : Nat) : Buf B v l (w.drewN n) := h

theorem Buf.setCell {B : Nat} {v : Value} {l : List UInt8} {w : World} (h : Buf B v l w) {a : Addr} (ha : a.block < B) (u : Value) : Buf B v l (w.setCell a u) :=
  ⟨ownsRow_setCell_below h.1 ha u, by simpa [World.setCell] using h.2⟩

theorem Buf.below {B : Nat} {v : Value} {l : List UInt8} {w w' : World} (h : Buf B v l w) (hg : w.grownBy w' v.ownBlock) : Below B w w' :=
  (Below.refl B w).grown hg h.2 (fun k hk => (h.1.lt k hk).1)

theorem Buf.shape {B : Nat} {v : Value} {l : List UInt8} {w : World} (h : Buf B v l w) : ∃ ao cap, v = .slice ao l.length cap := by
  obtain ⟨⟨_, h2⟩, _⟩ := h
  rcases h2 with ⟨rfl, h0⟩ | ⟨g, cap, cur, rfl, _⟩
  · exact ⟨none, 0, by rw [h0]⟩
  · exact ⟨_, _, rfl⟩

/-- 'b = append(b, c)': the one new byte lies in the block that the statement has just laid -/
theorem wp_byte {ops : Array Oper} {rest : List Oper} {o : Oper} {a : Act} {Q : Exit → Act → World → Prop} (hgd : o.guard = none) (s x : Operand)
    (ho : o.op = .call { callee := .builtin .append, args := #[s, x], argTypes := #[26, 26] })
    (B : Nat) (v : Value) (l : List UInt8) (w0 : World) (ci : Int) (c : UInt8) (hc : ci = (c.toNat : Int)) (hs : a.eval s = v) (hb : Buf B v l w0)
    (hx : a.eval x = .slice (some ⟨w0.heap.size, 0, none⟩) 1 1) (n : Nat) (hn0 : l.length = n) (hlen : n ≤ 4194304)
    (h : ∀ ao cap w', Buf B (.slice ao (n + 1) cap) (l ++ [c]) w' → Below B w0 w' → wpList Try.prog ops Q rest (a.put o.dst (.slice ao (n + 1) cap)) w') : wpList Try.prog ops Q (o :: rest) a (w0.alloc (.cells #[.int .u8 ci] 5)) := by
  subst hc
  subst hn0
  obtain ⟨i0, hi, hz0, hz1, hz2⟩ := info_parts info5
  have hb' := hb.alloc (.cells #[.int .u8 (c.toNat : Int)] 5)
  refine wpList_append_own _ hgd s x 26 ho B 5 i0 (.int .u8 0) 1 1 Try.underlying26 hi hz0 hz1 hz2 rfl (by decide) v l.length (bc l) hs hb'.1 ⟨w0.heap.size, 0, none⟩ 1 1 [.int .u8 (c.toNat : Int)] hx rfl ?_ ?_ (by unfold maxLen; omega) (by omega) hb'.2 ?_
  · intro j u hj
    match j, hj with
    | 0, hj => simp at hj; subst hj; simp [Addr.add]
    | (j + 1), hj => simp at hj
  · intro u hu; simp at hu; subst hu; rfl
  · intro v' w' ho' hg _
    have hn : Buf B v' (l ++ [c]) w' := by
      refine ⟨?_, Nat.le_trans hb'.2 hg.size⟩
      have e : bc (l ++ [c]) = bc l ++ [.int .u8 (c.toNat : Int)] := by simp [bc]
      rw [e, List.length_append]
      exact ho'
    obtain ⟨ao, cap, hv⟩ := hn.shape
    rw [List.length_append] at hv
    rw [hv] at hn ⊢
    exact h ao cap w' hn (((Below.refl B w0).alloc hb.2 _).trans (hb'.below hg))

/-- 'b = append(b, s...)' -/
theorem wp_text {ops : Array Oper} {rest : List Oper} {o : Oper} {a : Act} {Q : Exit → Act → World → Prop} (hgd : o.guard = none) (sl x : Operand)
    (ho : o.op = .call { callee := .builtin .append, args := #[sl, x], argTypes := #[26, 9] })
    (B : Nat) (v : Value) (l : List UInt8) (w : World) (hs : a.eval sl = v) (hb : Buf B v l w) (s : ByteArray) (hx : a.eval x = .string s) (n : Nat) (hn0 : l.length = n) (hlen : n ≤ 4194304) (hlen2 : s.size ≤ 4194304)
    (h : ∀ ao cap w', Buf B (.slice ao (n + s.size) cap) (l ++ s.data.toList) w' → Below B w w' → wpList Try.prog ops Q rest (a.put o.dst (.slice ao (n + s.size) cap)) w') : wpList Try.prog ops Q (o :: rest) a w := by
  subst hn0
  obtain ⟨i0, hi, hz0, hz1, hz2⟩ := info_parts info5
  refine Lib.wpList_append_own_string w hgd sl x 26 9 ho B 5 i0 Try.underlying26 Try.underlying9 hi hz0 hz1 hz2 v l.length (bc l) hs hb.1 s hx (by unfold maxLen; omega) (by omega) hb.2 ?_
  intro v' w' ho' hg _
  have hn : Buf B v' (l ++ s.data.toList) w' := by
    refine ⟨?_, Nat.le_trans hb.2 hg.size⟩
    have e : bc (l ++ s.data.toList) = bc l ++ Lib.strCells s := by simp [bc, Lib.strCells]
    rw [e, List.length_append]
    exact ho'
  obtain ⟨ao, cap, hv⟩ := hn.shape
  rw [List.length_append] at hv
  have hv' : v' = .slice ao (l.length + s.size) cap := hv
  rw [hv'] at hn ⊢
  exact h ao cap w' hn (hb.below hg)

/-- 'make([]byte, 0, n)' -/
theorem wp_make {ops : Array Oper} {rest : List Oper} {o : Oper} {a : Act} {Q : Exit → Act → World → Prop} (w : World) (hgd : o.guard = none) (l c : Operand)
    (ho : o.op = Op.makeSlice 26 l c) (B : Nat) (C : Int) (n : Nat) (hl : a.eval l = .int .i64 0) (hc : a.eval c = .int .i64 C) (hC : C = (n : Int)) (hn : n ≤ 4194304) (hB : B ≤ w.heap.size)
    (h : ∀ w', Buf B (.slice (some ⟨w.heap.size, 0, none⟩) 0 n) [] w' → Below B w w' → wpList Try.prog ops Q rest (a.put o.dst (.slice (some ⟨w.heap.size, 0, none⟩) 0 n)) w') : wpList Try.prog ops Q (o :: rest) a w := by
  obtain ⟨i0, hi, hz0, hz1, hz2⟩ := info_parts info5
  refine wpList_make_own w hgd l c 26 ho B 5 i0 (.int .u8 0) 1 Try.underlying26 hi hz0 hz1 .i64 .i64 C n hl hc hC (by rw [hz2]; omega) (by unfold maxLen; omega) hB ?_
  intro w' hown hg
  exact h w' ⟨hown, Nat.le_trans hB hg.size⟩ ((Below.refl B w).grown hg hB (fun k hk => by cases hk))

/-- 'string(b)' -/
theorem run_str {B : Nat} {v : Value} {l : List UInt8} {w : World} (h : Buf B v l w) : (convert 26 9 v).run Try.prog w = .ok (.string ⟨l.toArray⟩) w := by
  have hcells := fun g hg => h.1.cells (g := g) hg
  obtain ⟨⟨h1, h2⟩, _⟩ := h
  rcases h2 with ⟨rfl, h0⟩ | ⟨g, cap, cur, rfl, hg, hh, hn, hcap, hcs, ht⟩
  · have : l = [] := List.length_eq_zero_iff.1 h0
    subst this
    rw [run_convert_bytes_string w 26 9 5 none 0 0 Try.underlying26 Try.underlying5 Try.underlying9]
    rfl
  · refine run_convert_bytes_back w 26 9 5 ⟨g, 0, none⟩ cap l Try.underlying26 Try.underlying5 Try.underlying9 ?_
    intro j hj
    exact hcells g rfl j _ (by simp [bc, List.getElem?_eq_getElem hj])

end Go.Proofs.Qxb6612275a
