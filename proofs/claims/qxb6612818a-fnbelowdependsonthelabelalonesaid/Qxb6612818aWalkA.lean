import Derived.Test.Qxb6612818aRows
import Derived.WalkKit
import Derived.WalkSpells
import Derived.ProofKit
namespace Go.Proofs.Qxb6612818a
open Go.RowKit

/-- s ends in p. -/
def sufB (s p : ByteArray) : Bool := decide (p.size ≤ s.size) && ((s.extract (s.size - p.size) s.size).toList == p.toList)
/-- n lies below d. -/
def belowB (n d : ByteArray) : Bool := sufB n d && sufB (n.extract 0 (n.size - d.size)) ⟨#[46]⟩

theorem sufB_le {s p : ByteArray} (h : sufB s p = true) : p.size ≤ s.size := by
  unfold sufB at h; simp at h; exact h.1

theorem hide {p : Prop} (h : p) : Hid p := h
theorem unhide {p : Prop} (h : Hid p) : p := h
theorem ret_bool {a b : Bool} (h : a = b) : Ending.returned (.bool a) = .returned (.bool b) := by rw [h]

set_option maxHeartbeats 400000 in
theorem hs14 (s p : ByteArray) (w : World) (hs : s.size ≤ maxLen) (hp : p.size ≤ maxLen) :
    Calls Try.prog 14 #[.string s, .string p] w fun e w' => e = .returned (.bool (sufB s p)) ∧ w' = w := by
  unfold maxLen at hs hp
  by_cases h : p.size ≤ s.size
  · have H : Hid (((s.extract (s.size - p.size) s.size).toList == p.toList) = sufB s p) := by
      show _ = _
      unfold sufB; simp [h]
    go_enter Try.func14, Try.ntmps14
    go_wp2
    go_ret
    exact ⟨ret_bool H.out, rfl⟩
  · have H : Hid (false = sufB s p) := by
      show _ = _
      unfold sufB; simp [h]
    go_enter Try.func14, Try.ntmps14
    go_wp2
    go_ret
    exact ⟨ret_bool H.out, rfl⟩

set_option maxHeartbeats 400000 in
theorem hs12 (s p : ByteArray) (w : World) (hs : s.size ≤ maxLen) (hp : p.size ≤ maxLen) :
    Calls Try.prog 12 #[.string s, .string p] w fun e w' => e = .returned (.bool (sufB s p)) ∧ w' = w := by
  go_enter Try.func12, Try.ntmps12
  go_wp2_with (go_at_call 14; refine (hs14 _ _ _ hs hp).mono ?_; rintro e w' ⟨rfl, rfl⟩)
  go_ret
  exact ⟨rfl, rfl⟩

set_option maxHeartbeats 400000 in
theorem cs13_t (s p : ByteArray) (w : World) (hs : s.size ≤ maxLen) (hp : p.size ≤ maxLen) (h : sufB s p = true) :
    Calls Try.prog 13 #[.string s, .string p] w fun e w' => e = .returned (.tuple #[.string (s.extract 0 (s.size - p.size)), .bool true]) ∧ w' = w := by
  have hle := sufB_le h
  have hc := hs14 s p w hs hp
  rw [h] at hc
  have HC := hide hc
  clear hc h
  unfold maxLen at hs hp
  go_enter Try.func13, Try.ntmps13
  go_wp2_with (go_at_call 14; refine (unhide HC).mono ?_; rintro e w' ⟨rfl, rfl⟩)
  go_ret2
  exact ⟨rfl, rfl⟩

set_option maxHeartbeats 400000 in
theorem cs13_f (s p : ByteArray) (w : World) (hs : s.size ≤ maxLen) (hp : p.size ≤ maxLen) (h : sufB s p = false) :
    Calls Try.prog 13 #[.string s, .string p] w fun e w' => e = .returned (.tuple #[.string s, .bool false]) ∧ w' = w := by
  have hc := hs14 s p w hs hp
  rw [h] at hc
  have HC := hide hc
  clear hc h
  go_enter Try.func13, Try.ntmps13
  go_wp2_with (go_at_call 14; refine (unhide HC).mono ?_; rintro e w' ⟨rfl, rfl⟩)
  go_ret2
  exact ⟨rfl, rfl⟩

set_option maxHeartbeats 400000 in
theorem cs11_t (s p : ByteArray) (w : World) (hs : s.size ≤ maxLen) (hp : p.size ≤ maxLen) (h : sufB s p = true) :
    Calls Try.prog 11 #[.string s, .string p] w fun e w' => e = .returned (.tuple #[.string (s.extract 0 (s.size - p.size)), .bool true]) ∧ w' = w := by
  have hc := cs13_t s p w hs hp h
  have HC := hide hc
  clear hc h
  go_enter Try.func11, Try.ntmps11
  go_wp2_with (go_at_call 13; refine (unhide HC).mono ?_; rintro e w' ⟨rfl, rfl⟩)
  go_ret2
  exact ⟨rfl, rfl⟩

set_option maxHeartbeats 400000 in
theorem cs11_f (s p : ByteArray) (w : World) (hs : s.size ≤ maxLen) (hp : p.size ≤ maxLen) (h : sufB s p = false) :
    Calls Try.prog 11 #[.string s, .string p] w fun e w' => e = .returned (.tuple #[.string s, .bool false]) ∧ w' = w := by
  have hc := cs13_f s p w hs hp h
  have HC := hide hc
  clear hc h
  go_enter Try.func11, Try.ntmps11
  go_wp2_with (go_at_call 13; refine (unhide HC).mono ?_; rintro e w' ⟨rfl, rfl⟩)
  go_ret2
  exact ⟨rfl, rfl⟩

set_option maxHeartbeats 400000 in
theorem below10 (n d : ByteArray) (w : World) (hn : n.size ≤ maxLen) (hd : d.size ≤ maxLen) :
    Calls Try.prog 10 #[.string n, .string d] w fun e w' => e = .returned (.bool (belowB n d)) ∧ w' = w := by
  by_cases h : sufB n d = true
  · have hb : belowB n d = sufB (n.extract 0 (n.size - d.size)) ⟨#[46]⟩ := by unfold belowB; rw [h]; rfl
    have hc := cs11_t n d w hn hd h
    have HC := hide hc
    have hx : (n.extract 0 (n.size - d.size)).size ≤ maxLen := by simp; omega
    have hd2 := hs12 (n.extract 0 (n.size - d.size)) ⟨#[46]⟩ w hx (by decide)
    rw [← hb] at hd2
    have HD := hide hd2
    clear hc h hd2 hb
    go_enter Try.func10, Try.ntmps10
    go_wp2_with (first | (go_at_call 11; refine (unhide HC).mono ?_; rintro e w' ⟨rfl, rfl⟩) | (go_at_call 12; refine (unhide HD).mono ?_; rintro e w' ⟨rfl, rfl⟩))
    go_ret
    exact ⟨rfl, rfl⟩
  · have h := eq_false_of_ne_true h
    have hb : belowB n d = false := by unfold belowB; rw [h]; rfl
    have hc := cs11_f n d w hn hd h
    have HC := hide hc
    have HB := hide hb
    clear hc h hb
    go_enter Try.func10, Try.ntmps10
    go_wp2_with (first | (go_at_call 11; refine (unhide HC).mono ?_; rintro e w' ⟨rfl, rfl⟩))
    go_ret
    exact ⟨ret_bool (unhide HB).symm, rfl⟩

set_option maxHeartbeats 400000 in
theorem below7 (n d : ByteArray) (w : World) (hn : n.size ≤ maxLen) (hd : d.size ≤ maxLen) :
    Calls Try.prog 7 #[.string n, .string d] w fun e w' => e = .returned (.bool (belowB n d)) ∧ w' = w := by
  go_enter Try.func7, Try.ntmps7
  go_wp2_with (first | (go_at_call 10; refine (below10 _ _ _ hn hd).mono ?_; rintro e w' ⟨rfl, rfl⟩))
  go_ret
  exact ⟨rfl, rfl⟩

end Go.Proofs.Qxb6612818a
