import Derived.Test.Qxb6612818aWalkB
import Derived.BigQuiet
namespace Go.Proofs.Qxb6612818a
open Go.RowKit

theorem sufB_at {s p : ByteArray} {k : Nat} (hs : sufB s p = true) (hk : k < p.size) (hk' : s.size - p.size + k < s.size) : s[s.size - p.size + k] = p[k] := by
  unfold sufB at hs
  rw [Bool.and_eq_true, beq_iff_eq, ByteArray.toList_eq, ByteArray.toList_eq] at hs
  have e := congrArg (fun l : List UInt8 => l[k]?) hs.2
  simp only [ByteArray.data_extract, Array.toList_extract, List.extract_eq_take_drop] at e
  rw [List.getElem?_take_of_lt (by omega), List.getElem?_drop] at e
  have e1 : s.data.toList[s.size - p.size + k]? = some s[s.size - p.size + k] := by
    rw [List.getElem?_eq_getElem (by simpa using hk')]; rfl
  have e2 : p.data.toList[k]? = some p[k] := by
    rw [List.getElem?_eq_getElem (by simpa using hk)]; rfl
  rw [e1, e2] at e
  exact Option.some.inj e

theorem belowB_no {s p : ByteArray} (h : sufB s p = false) : belowB s p = false := by
  unfold belowB
  rw [h]; rfl

theorem sufB_ne {s p : ByteArray} {k : Nat} (hk : k < p.size) (hk' : s.size - p.size + k < s.size) (hne : ((s[s.size - p.size + k].toNat : Int) != (p[k].toNat : Int)) = true) : sufB s p = false := by
  cases h : sufB s p
  · rfl
  · rw [sufB_at h hk hk'] at hne
    simp at hne

theorem sufB_dot {s : ByteArray} (h : 0 < s.size) (h' : s.size - 1 < s.size) : ((s[s.size - 1].toNat : Int) == 46) = sufB s ⟨#[46]⟩ := by
  cases hb : sufB s ⟨#[46]⟩
  · rw [beq_eq_false_iff_ne]
    intro e
    have e3 : s[s.size - 1] = 46 := by
      apply UInt8.toNat_inj.1; simp; omega
    have e4 : s = s.extract 0 (s.size - 1) ++ ⟨#[46]⟩ := by
      apply ByteArray.ext
      apply Array.toList_inj.1
      have hsz : s.data.toList.length = s.size := by simp
      have hlast : s.data.toList[s.size - 1]'(by omega) = 46 := e3
      have hsp := List.take_append_drop (s.size - 1) s.data.toList
      have hdrop : s.data.toList.drop (s.size - 1) = [46] := by
        rw [List.drop_eq_getElem_cons (by omega), hlast, List.drop_of_length_le (by omega)]
      rw [hdrop] at hsp
      simp only [ByteArray.data_append, ByteArray.data_extract, Array.toList_append, Array.toList_extract, List.extract_eq_take_drop, List.drop_zero, Nat.sub_zero]
      exact hsp.symm
    rw [e4, sufB_app] at hb
    cases hb
  · have hk : 0 < (⟨#[46]⟩ : ByteArray).size := by decide
    have := sufB_at hb hk (by simpa [dot_size] using h')
    have e : s[s.size - 1] = 46 := this
    rw [e]; decide

set_option maxHeartbeats 400000 in
theorem bytes5 (x y c : ByteArray) (w : World) (hx : x.size ≤ maxLen) (hy : y.size ≤ maxLen) (hc : c.size ≤ maxLen) :
    Calls Try.prog 5 #[.string x, .string y, .string c] w fun e w' => (∃ b, e = .returned (.bool b)) ∧ w' = w := by
  unfold maxLen at hx hy hc
  go_enter Try.func5, Try.ntmps5
  go_wp2
  all_goals
    go_ret
    exact ⟨⟨_, rfl⟩, rfl⟩

set_option maxHeartbeats 400000 in
theorem dot6 (s : ByteArray) (w : World) (hs : s.size ≤ maxLen) :
    Calls Try.prog 6 #[.string s] w fun e w' => e = .returned (.bool (sufB s ⟨#[46]⟩)) ∧ w' = w := by
  unfold maxLen at hs
  by_cases h : 0 < s.size
  · have H : Hid (((s[s.size - 1].toNat : Int) == 46) = sufB s ⟨#[46]⟩) := sufB_dot h (by omega)
    go_enter Try.func6, Try.ntmps6
    go_wp2
    go_ret
    exact ⟨ret_bool H.out, rfl⟩
  · have H : Hid (false = sufB s ⟨#[46]⟩) := (sufB_short (by rw [dot_size]; omega)).symm
    go_enter Try.func6, Try.ntmps6
    go_wp2
    go_ret
    exact ⟨ret_bool H.out, rfl⟩

set_option maxHeartbeats 400000 in
theorem ends8 (s p : ByteArray) (w : World) (hs : s.size ≤ maxLen) (hp : p.size ≤ maxLen) :
    Calls Try.prog 8 #[.string s, .string p] w fun e w' => ∃ b, e = .returned (.bool b) ∧ (b = false → belowB s p = false) ∧ ∃ n, w' = w.drewN n := by
  unfold maxLen at hs hp
  by_cases h : p.size ≤ s.size
  · go_enter Try.func8, Try.ntmps8
    go_wp2
    go_loopw [6] (fun i w' => ∃ k : Nat, k ≤ p.size ∧ i = .int .i64 k ∧ ∃ n, w' = w.drewN n) (fun i _ => p.size - (intOf i).toNat)
    case atStart => exact ⟨0, Nat.zero_le _, rfl, 0, rfl⟩
    case round =>
      obtain ⟨k, hk, rfl, n, rfl⟩ := hrel
      by_cases hlt : k < p.size
      · have hi0 : (0 : Int) ≤ (s.size : Int) - p.size + k := by omega
        have hi1 : (s.size : Int) - p.size + k < s.size := by omega
        have hi2 : (k : Int) < p.size := by omega
        have hi3 : s.size - p.size + k < s.size := by omega
        go_wp2
        go_quiet (fail)
        go_wp2
        · go_ret
          exact ⟨_, rfl, fun _ => belowB_no (sufB_ne hlt hi3 ‹_›), n + nq, by rw [World.drewN_drewN]⟩
        · exact ⟨⟨k + 1, by omega, by go_num, _, rfl⟩, by simp [intOf]; omega⟩
      · go_wp2
        go_ret
        exact ⟨_, rfl, by simp, _, rfl⟩
  · have H : Hid (sufB s p = false) := sufB_short (by omega)
    go_enter Try.func8, Try.ntmps8
    go_wp2
    go_ret
    exact ⟨_, rfl, fun _ => belowB_no H.out, 0, rfl⟩

theorem grown_drewN (w : World) (n : Nat) : Grown w (w.drewN n) := by
  induction n with
  | zero => exact Grown.refl _
  | succ n ih => exact Grown.drew ih

set_option maxHeartbeats 400000 in
theorem walk3 (x y c : ByteArray) (w : World) (hx : x.size ≤ maxLen) (hy : y.size ≤ maxLen) (hc : c.size ≤ maxLen) :
    Calls Try.prog 3 #[.string x, .string y, .string c] w fun e w' => e = .returned (.bool true) ∧ Grown w w' := by
  have hq := bytes5 x y c w hx hy hc
  have HQ := hide hq
  have he := ends8 c y w hc hy
  have HE := hide he
  have hd := dot6 x w hx
  have HD := hide hd
  unfold maxLen at hx hy hc
  have f1 : belowB (x ++ y) y = sufB x ⟨#[46]⟩ := belowB_app _ _
  have f2 : belowB (x ++ c) c = sufB x ⟨#[46]⟩ := belowB_app _ _
  generalize sufB x ⟨#[46]⟩ = want at *
  clear hq he hd
  go_enter Try.func3, Try.ntmps3
  go_wp2_with (first | (go_at_call 5; refine (unhide HQ).mono ?_; rintro e w' ⟨⟨b, rfl⟩, rfl⟩; cases b) | (go_at_call 6; refine (unhide HD).mono ?_; rintro e w' ⟨rfl, rfl⟩) | (go_at_call 8; refine (unhide HE).mono ?_; rintro e w' ⟨b, rfl, hb, n, rfl⟩; cases b) | (go_at_call 7; refine (below7 _ _ _ (by simp only [ByteArray.size_append, maxLen]; omega) (by simp only [maxLen]; omega)).mono ?_; rintro e w' ⟨rfl, rfl⟩))
  all_goals
    go_ret
    exact ⟨rfl, by first | exact Grown.refl _ | exact grown_drewN _ _⟩
end Go.Proofs.Qxb6612818a
