/-
  Seat b6612275a: quotedAt and ZZquotedAt.
-/
import Derived.Test.Qxb6612275aLines
namespace Go.Proofs.Qxb6612275a
open Go.RowKit

/-- what the reader holds in memory: its text, and in its field 'quoted' a row that the call owns -/
structure Rd (b B : Nat) (s : ByteArray) (v : Value) (q : List UInt8) (m : Int) (w wr : World) : Prop where
  c4 : wr.cell? ⟨b, 4, none⟩ = some (.string s)
  c10 : wr.cell? ⟨b, 10, none⟩ = some v
  fz : wr.frozen? ⟨b, 10, none⟩ = false
  buf : Buf B v q wr
  bel : Below b w wr
  cm : wr.cell? ⟨0, 0, none⟩ = some (.int .i64 m)

theorem Rd.put {b B : Nat} {s : ByteArray} {v v' : Value} {q q' : List UInt8} {m : Int} {w wr w1 : World} (h : Rd b B s v q m w wr) (hbB : b < B) (h0 : 0 < b) (hb : Buf B v' q' w1) (hbel : Below B wr w1) :
    Rd b B s v' q' m w (w1.setCell ⟨b, 10, none⟩ v') := by
  have hlt : b < w1.heap.size := Nat.lt_of_lt_of_le hbB hb.2
  have k4 : w1.cell? ⟨b, 4, none⟩ = some (.string s) := (hbel.cell (p := ⟨b, 4, none⟩) hbB).trans h.c4
  have k10 : w1.cell? ⟨b, 10, none⟩ = some v := (hbel.cell (p := ⟨b, 10, none⟩) hbB).trans h.c10
  have kf : w1.frozen? ⟨b, 10, none⟩ = false := (hbel.frozen (p := ⟨b, 10, none⟩) hbB).trans h.fz
  have km : w1.cell? ⟨0, 0, none⟩ = some (.int .i64 m) := (hbel.cell (p := ⟨0, 0, none⟩) (Nat.lt_trans h0 hbB)).trans h.cm
  refine ⟨?_, ?_, ?_, hb.setCell hbB _, (h.bel.trans (hbel.mono (by omega))).setCell (Nat.le_refl _) _, ?_⟩
  · simp [go_sem, k4]
  · simp [go_sem, k10]
  · simp [go_sem, kf]
  · have hne : b ≠ 0 := by omega
    have e2 : (w1.setCell ⟨b, 10, none⟩ v').cell? ⟨0, 0, none⟩ = w1.cell? ⟨0, 0, none⟩ := World.cell?_of_block (Below.heap_setCell _ _ _ _ (fun e => hne e.symm))
    rw [e2, km]

theorem Rd.keep {b B : Nat} {s : ByteArray} {v : Value} {q : List UInt8} {m : Int} {w wr w1 : World} (h : Rd b B s v q m w wr) (hbB : b < B) (hbel : Below B wr w1) :
    w1.cell? ⟨b, 4, none⟩ = some (.string s) ∧ w1.cell? ⟨b, 10, none⟩ = some v ∧ w1.frozen? ⟨b, 10, none⟩ = false ∧ b < w1.heap.size :=
  ⟨(hbel.cell (p := ⟨b, 4, none⟩) hbB).trans h.c4, (hbel.cell (p := ⟨b, 10, none⟩) hbB).trans h.c10, (hbel.frozen (p := ⟨b, 10, none⟩) hbB).trans h.fz, Nat.lt_of_lt_of_le hbB (Nat.le_trans h.buf.2 hbel.size)⟩

theorem idx_call {x : ByteArray} {n : Nat} (h : Lib.indexByte x.data.toList 34 = (n : Int)) (w : World) : Calls Try.prog 10 #[.string x, .int .u8 34] w fun e w' => e = .returned (.int .i64 (n : Int)) ∧ w' = w := by
  rw [← h]; exact Try.strings_IndexByte x 34 w

theorem pre_call {x : ByteArray} {f : Bool} (h : Lib.hasPrefix x.data.toList [34] = f) (w : World) : Calls Try.prog 11 #[.string x, .string ⟨#[34]⟩] w fun e w' => e = .returned (.bool f) ∧ w' = w := by
  rw [← h]; exact Try.strings_HasPrefix x ⟨#[34]⟩ w

theorem cont_call {x : ByteArray} {f : Bool} (hx : x.size ≤ 4194304) (h : Lib.contains x.data.toList [13, 10] = f) (w : World) (m : Int) (hm : w.cell? ⟨0, 0, none⟩ = some (.int .i64 m)) : Calls Try.prog 14 #[.string x, .string ⟨#[13, 10]⟩] w fun e w' => e = .returned (.bool f) ∧ w' = w := by
  rw [← h]; exact Try.strings_Contains x ⟨#[13, 10]⟩ m w (by omega) hm

theorem tail_list (s : ByteArray) (k : Nat) : (s.extract k s.size).data.toList = s.data.toList.drop k := by
  rw [← ByteArray.toList_eq, Lib.extract_toList, List.take_of_length_le (by rw [List.length_drop, list_len]; exact Nat.le_refl _)]

theorem part_list (s : ByteArray) (k n : Nat) : (s.extract k (k + n)).data.toList = (s.data.toList.drop k).take n := by
  rw [← ByteArray.toList_eq, Lib.extract_toList, Nat.add_sub_cancel_left]

theorem st_len {s content suf q todo : List UInt8} {pos : Nat} (h : St s content suf pos q todo) : q.length ≤ content.length := by
  have e := congrArg List.length h.2.2.1
  rw [List.length_append] at e
  have := crlf_len content
  omega

theorem Rd.start {b : Nat} {s : ByteArray} {m : Int} {w : World} (hb : b < w.heap.size) (h0 : 0 < b) (hc4 : w.cell? ⟨b, 4, none⟩ = some (.string s)) (hc10 : w.cell? ⟨b, 10, none⟩ = some (.slice none 0 0)) (hfz : w.frozen? ⟨b, 10, none⟩ = false) (hm : w.cell? ⟨0, 0, none⟩ = some (.int .i64 m)) :
    Rd b w.heap.size s (.slice none 0 0) [] m w (w.setCell ⟨b, 10, none⟩ (.slice none 0 0)) :=
  Rd.put (v := .slice none 0 0) (q := []) ⟨hc4, hc10, hfz, Buf.nil _ _ (Nat.le_refl _), Below.refl _ _, hm⟩ hb h0 (Buf.nil _ _ (Nat.le_refl _)) (Below.refl _ _)

theorem no_pre {suf : List UInt8} (h : suf.head? ≠ some 34) : Lib.hasPrefix suf [34] = false := by
  cases suf with
  | nil => rfl
  | cons a l =>
    have ha : ¬ (34 : UInt8) = a := fun e => h (by simp [e])
    simp [Lib.hasPrefix, List.isPrefixOf, ha]

theorem at_end {s : ByteArray} {content suf : List UInt8} {i k n : Nat} (h : St s.data.toList content suf (i + 1) [] content) (hk : k + (n + 1) + suf.length = s.size) : k + (n + 1) = i + 1 + (quote content).length + 1 := by
  have := h.2.1
  rw [list_len] at this
  omega

theorem count_call {s : ByteArray} {content suf : List UInt8} {i k n : Nat} (h : St s.data.toList content suf (i + 1) [] content) (hk : k + (n + 1) + suf.length = s.size) (w : World) :
    Calls Try.prog 13 #[.string (s.extract (i + 1) (k + (n + 1))), .string ⟨#[10]⟩] w fun e w' => e = .returned (.int .i64 ((content.count 10 : Nat) : Int)) ∧ w' = w := by
  have e := at_end h hk
  have el : (s.extract (i + 1) (k + (n + 1))).data.toList = quote content ++ [34] := by
    rw [e, show i + 1 + (quote content).length + 1 = i + 1 + ((quote content).length + 1) by omega, part_list, h.1]
    rw [List.take_append, List.take_of_length_le (by omega)]
    simp
  have ec : Lib.countByte (s.extract (i + 1) (k + (n + 1))).data.toList 10 = content.count 10 := by
    rw [el, Lib.countByte, List.count_append, quote_count]
    simp
  rw [← ec]
  exact Try.strings_Count_one _ 10 w

set_option maxRecDepth 100000 in
set_option maxHeartbeats 1000000 in
theorem quoted_any (b : Nat) (s : ByteArray) (content suf : List UInt8) (i : Nat) (m : Int) (w : World) (hs : s.size ≤ 2097152) (hst : St s.data.toList content suf (i + 1) [] content) (hsuf : suf.head? ≠ some 34)
    (hb : b < w.heap.size) (h0 : 0 < b) (hc4 : w.cell? ⟨b, 4, none⟩ = some (.string s)) (hc10 : w.cell? ⟨b, 10, none⟩ = some (.slice none 0 0)) (hfz : w.frozen? ⟨b, 10, none⟩ = false) (hm : w.cell? ⟨0, 0, none⟩ = some (.int .i64 m)) :
    Calls Try.prog 9 #[.pointer (some ⟨b, 0, none⟩), .int .i64 i] w fun e w' => (∃ f : ByteArray, f.data.toList = crlf content ∧ e = .returned (.tuple #[.string f, .int .i64 ((i + 1 + (quote content).length + 1 : Nat) : Int), .int .i64 ((content.count 10 : Nat) : Int), .bool true])) ∧ Below b w w' := by
  have HST := hide hst
  have HF := hide hsuf
  clear hsuf
  have hi : i + 1 ≤ s.size := by have := hst.2.1; rw [list_len] at this; omega
  have hcl : content.length ≤ s.size := by have := hst.2.1; have := quote_len content; rw [list_len] at *; omega
  clear hst
  go_enter Try.func9, Try.ntmps9
  go_wp2_with fail
  go_loopw [9] (fun vp wr => ∃ (pos : Nat) (q todo : List UInt8) (ao : Option Addr) (cap : Nat), vp = .int .i64 pos ∧ pos ≤ s.size ∧ Hid (St s.data.toList content suf pos q todo) ∧ Rd b w.heap.size s (.slice ao q.length cap) q m w wr) (fun vp _ => s.size - (intOf vp).toNat)
  case atStart => exact ⟨i + 1, [], content, none, 0, rfl, hi, HST, Rd.start hb h0 hc4 hc10 hfz hm⟩
  case round =>
    obtain ⟨pos, q, todo, ao, cap, rfl, hpos, HS, hR⟩ := hrel
    have hc4r := hR.c4
    have hc10r := hR.c10
    have hfzr := hR.fz
    have hql := st_len HS.out
    rcases split_first todo with hno | ⟨p, r, rfl, hno⟩
    · obtain ⟨e1, e2, e3, e4⟩ := st_last HS.out hno
      rw [list_len] at e4
      have hv10 := hide (idx_call (x := s.extract pos s.size) (by rw [tail_list]; exact e1))
      have hv11 := hide (pre_call (x := s.extract (pos + (todo.length + 1)) s.size) (f := false) (by rw [tail_list, e3]; exact no_pre HF.out))
      have hv13 := hide (count_call (s := s) HST.out e4)
      have hpart := hide ((part_list s pos todo.length).trans e2)
      have HAT := hide (at_end HST.out e4)
      have HN : Hid (todo.length ≤ 2097152) := by show todo.length ≤ 2097152; omega
      obtain ⟨n, hn⟩ : ∃ n, todo.length = n := ⟨_, rfl⟩
      rw [hn] at hv10 hv11 hv13 hpart HAT e4
      clear hn e1 e2 e3
      have hpz : (s.extract pos (pos + n)).size ≤ s.size := by simp; omega
      have hpe : pos + (n + 1) ≤ s.size := by omega
      have hile : i + 1 ≤ pos + (n + 1) := by have := HAT.out; omega
      clear e4
      obtain ⟨cnt, hcnt⟩ : ∃ cnt, Hid (content.count 10 = cnt) := ⟨_, rfl⟩
      have hv13' : Hid (∀ w, Calls Try.prog 13 #[.string (s.extract (i + 1) (pos + (n + 1))), .string ⟨#[10]⟩] w fun e w' => e = .returned (.int .i64 (cnt : Int)) ∧ w' = w) := by rw [← hcnt.out]; exact hv13.out
      clear hv13
      have hTZ : Hid (((pos : Int) + ((n : Int) + 1)) = ((i + 1 + (quote content).length + 1 : Nat) : Int)) := by show _ = _; have := HAT.out; omega
      by_cases hq : q = [] ∧ Lib.contains todo [13, 10] = false
      · obtain ⟨hq, hct⟩ := hq
        have hv14 := hide (cont_call (x := s.extract pos (pos + n)) (f := false) (by omega) (by rw [hpart.out]; exact hct))
        have HE : Hid (todo = crlf content) := by
          have h1 := HS.out.2.2.2 hq
          show todo = crlf content
          rw [← h1, crlf_contains_no todo hct]
        subst hq
        clear hct
        go_wp2_with (first
          | (go_at_call 10; refine (hv10.out _).mono ?_; rintro e w1 ⟨rfl, rfl⟩)
          | (go_at_call 11; refine (hv11.out _).mono ?_; rintro e w1 ⟨rfl, rfl⟩)
          | (go_at_call 13; refine (hv13'.out _).mono ?_; rintro e w1 ⟨rfl, rfl⟩)
          | (go_at_call 14; refine (hv14.out _ m (by exact hR.cm)).mono ?_; rintro e w1 ⟨rfl, rfl⟩))
        refine bodyPost_ret (v := .tuple #[.string (s.extract pos (pos + n)), .int .i64 ((pos : Int) + ((n : Int) + 1)), .int .i64 (cnt : Int), .bool true]) (by simp [results, Try.results9, go_sem]) rfl ⟨⟨s.extract pos (pos + n), ?_, ?_⟩, hR.bel⟩
        · rw [hpart.out]; exact HE.out
        · rw [hTZ.out, hcnt.out]
      · obtain ⟨qt, hqt⟩ : ∃ qt, Hid (q ++ crlf (s.extract pos (pos + n)).data.toList = qt) := ⟨_, rfl⟩
        obtain ⟨L, hL⟩ : ∃ L, Hid (qt.length = L) := ⟨_, rfl⟩
        have HE : Hid (qt = crlf content) := by
          show qt = crlf content
          rw [← hqt.out, hpart.out]; exact HS.out.2.2.1
        by_cases hq0 : q = []
        · have hct : Lib.contains todo [13, 10] = true := by
            cases e : Lib.contains todo [13, 10] with
            | true => rfl
            | false => exact absurd ⟨hq0, e⟩ hq
          have hv14 := hide (cont_call (x := s.extract pos (pos + n)) (f := true) (by omega) (by rw [hpart.out]; exact hct))
          clear hct hq
          subst hq0
          go_wp2_with (first
            | (go_at_call 10; refine (hv10.out _).mono ?_; rintro e w1 ⟨rfl, rfl⟩)
            | (go_at_call 11; refine (hv11.out _).mono ?_; rintro e w1 ⟨rfl, rfl⟩)
            | (go_at_call 13; refine (hv13'.out _).mono ?_; rintro e w1 ⟨rfl, rfl⟩)
            | (go_at_call 14; refine (hv14.out _ m (by exact hR.cm)).mono ?_; rintro e w1 ⟨rfl, rfl⟩)
            | (go_at_call 12; refine (lines_any w.heap.size _ [] _ m _ (by exact hR.buf) (by omega) (by exact hR.cm) (by simp; omega) qt L hqt hL).mono ?_; rintro e w1 ⟨ao1, cap1, rfl, hb1, hbel1⟩; have hst := run_str hb1))
          refine bodyPost_ret (v := .tuple #[.string ⟨qt.toArray⟩, .int .i64 ((pos : Int) + ((n : Int) + 1)), .int .i64 (cnt : Int), .bool true]) (by simp [results, Try.results9, go_sem]) rfl ⟨⟨⟨qt.toArray⟩, ?_, ?_⟩, hR.bel.trans (hbel1.mono (by omega))⟩
          · rw [← HE.out]
          · rw [hTZ.out, hcnt.out]
        · have hql0 : ((q.length : Int) == 0) = false := by
            rw [beq_eq_false_iff_ne]
            intro e
            exact hq0 (List.length_eq_zero_iff.1 (by omega))
          clear hq hq0
          go_wp2_with (first
            | (go_at_call 10; refine (hv10.out _).mono ?_; rintro e w1 ⟨rfl, rfl⟩)
            | (go_at_call 11; refine (hv11.out _).mono ?_; rintro e w1 ⟨rfl, rfl⟩)
            | (go_at_call 13; refine (hv13'.out _).mono ?_; rintro e w1 ⟨rfl, rfl⟩)
            | (go_at_call 12; refine (lines_any w.heap.size _ q _ m _ (by exact hR.buf) (by omega) (by exact hR.cm) (by omega) qt L hqt hL).mono ?_; rintro e w1 ⟨ao1, cap1, rfl, hb1, hbel1⟩; have hst := run_str hb1))
          refine bodyPost_ret (v := .tuple #[.string ⟨qt.toArray⟩, .int .i64 ((pos : Int) + ((n : Int) + 1)), .int .i64 (cnt : Int), .bool true]) (by simp [results, Try.results9, go_sem]) rfl ⟨⟨⟨qt.toArray⟩, ?_, ?_⟩, hR.bel.trans (hbel1.mono (by omega))⟩
          · rw [← HE.out]
          · rw [hTZ.out, hcnt.out]
    · obtain ⟨e1, e2, ⟨m34, e3⟩, e4, e5⟩ := st_more HS.out hno
      rw [list_len] at e4
      have hv10 := hide (idx_call (x := s.extract pos s.size) (by rw [tail_list]; exact e1))
      have hv11 := hide (pre_call (x := s.extract (pos + (p.length + 1)) s.size) (f := true) (by rw [tail_list, e3]; rfl))
      have hpart := hide ((part_list s pos p.length).trans e2)
      have HS' := hide e5
      clear e1 e2 e3 e5
      have HN : Hid (p.length ≤ 2097152) := by show p.length ≤ 2097152; omega
      obtain ⟨n, hn⟩ : ∃ n, p.length = n := ⟨_, rfl⟩
      rw [hn] at hv10 hv11 hpart HS' e4
      clear hn
      have hpz : (s.extract pos (pos + n)).size ≤ s.size := by simp; omega
      obtain ⟨qt, hqt⟩ : ∃ qt, Hid (q ++ crlf (s.extract pos (pos + n)).data.toList = qt) := ⟨_, rfl⟩
      obtain ⟨L, hL⟩ : ∃ L, Hid (qt.length = L) := ⟨_, rfl⟩
      have hLb : L ≤ 4194304 := by
        rw [← hL.out, ← hqt.out, List.length_append, hpart.out]
        have := crlf_len p
        have := HN.out
        omega
      go_wp2_with (first
        | (go_at_call 10; refine (hv10.out _).mono ?_; rintro e w1 ⟨rfl, rfl⟩)
        | (go_at_call 11; refine (hv11.out _).mono ?_; rintro e w1 ⟨rfl, rfl⟩)
        | (go_at_call 12; refine (lines_any w.heap.size _ q _ m _ (by exact hR.buf) (by omega) (by exact hR.cm) (by omega) qt L hqt hL).mono ?_; rintro e w1 ⟨ao1, cap1, rfl, hb1, hbel1⟩; obtain ⟨k4, k10, kf, klt⟩ := hR.keep hb hbel1)
        | (at_builtin; refine wp_byte rfl (.tmp 60) (.tmp 61) rfl w.heap.size _ qt _ 34 34 rfl rfl (by exact hb1) rfl L hL.out hLb ?_; intro ao2 cap2 w2 hb2 hbel2; obtain ⟨k4', k10', kf', klt'⟩ := hR.keep hb (hbel1.trans hbel2)))
      go_roundw
      case rel =>
        have e5 : qt = q ++ crlf p := by rw [← hqt.out, hpart.out]
        have e6 : (q ++ crlf p ++ [34]).length = L + 1 := by rw [← hL.out, e5]; simp; omega
        refine ⟨pos + (n + 1) + 1, q ++ crlf p ++ [34], r, ao2, cap2, by go_num, e4, HS'.out, ?_⟩
        rw [e6, ← e5]
        exact hR.put hb h0 hb2 (hbel1.trans hbel2)
      case measure => simp [intOf]; omega

end Go.Proofs.Qxb6612275a
