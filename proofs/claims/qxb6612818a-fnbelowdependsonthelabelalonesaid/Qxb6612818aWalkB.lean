import Derived.Test.Qxb6612818aWalkA
namespace Go.Proofs.Qxb6612818a
open Go.RowKit

theorem dot_size : ({ data := #[46] } : ByteArray).size = 1 := rfl

theorem sufB_app (r d : ByteArray) : sufB (r ++ d) d = true := by
  unfold sufB
  rw [Bool.and_eq_true]
  refine ⟨by simp, ?_⟩
  rw [beq_iff_eq, ByteArray.toList_eq, ByteArray.toList_eq]
  simp [ByteArray.data_extract]
  rw [List.drop_of_length_le (by simp), List.take_nil, List.nil_append]
  exact List.take_of_length_le (by simp)

theorem cut_app (r d : ByteArray) : (r ++ d).extract 0 ((r ++ d).size - d.size) = r := by
  apply ByteArray.ext
  rw [ByteArray.data_extract]
  simp

theorem belowB_app (r d : ByteArray) : belowB (r ++ d) d = sufB r ⟨#[46]⟩ := by
  unfold belowB
  rw [sufB_app, cut_app]; rfl

theorem sufB_short {s p : ByteArray} (h : s.size < p.size) : sufB s p = false := by
  unfold sufB
  have : ¬ p.size ≤ s.size := by omega
  simp [this]

theorem belowB_short {s p : ByteArray} (h : s.size < p.size) : belowB s p = false := by
  unfold belowB
  rw [sufB_short h]; rfl

theorem belowB_self (s : ByteArray) : belowB s s = false := by
  have h : s = ByteArray.empty ++ s := by apply ByteArray.ext; simp
  have e : belowB s s = belowB (ByteArray.empty ++ s) s := congrArg (fun t => belowB t s) h
  rw [e, belowB_app]
  decide

set_option maxHeartbeats 400000 in
theorem bytes9 (x y c : ByteArray) (w : World) (hx : x.size ≤ maxLen) (hy : y.size ≤ maxLen) (hc : c.size ≤ maxLen) :
    Calls Try.prog 9 #[.string x, .string y, .string c] w fun e w' => (∃ b, e = .returned (.bool b)) ∧ w' = w := by
  unfold maxLen at hx hy hc
  go_enter Try.func9, Try.ntmps9
  go_wp2
  all_goals
    go_ret
    exact ⟨⟨_, rfl⟩, rfl⟩

theorem cat_assoc (a b c : ByteArray) : a ++ b ++ c = a ++ (b ++ c) := by
  apply ByteArray.ext; simp

set_option maxHeartbeats 400000 in
theorem walk4 (x y c : ByteArray) (w : World) (hx : x.size ≤ maxLen) (hy : y.size ≤ maxLen) (hc : c.size ≤ maxLen) :
    Calls Try.prog 4 #[.string x, .string y, .string c] w fun e w' => e = .returned (.bool true) ∧ w' = w := by
  have hq := bytes9 x y c w hx hy hc
  have HQ := hide hq
  unfold maxLen at hx hy hc
  have f1 : belowB (x ++ { data := #[46] } ++ (y ++ { data := #[46] } ++ c)) (y ++ { data := #[46] } ++ c) = true := by
    rw [belowB_app, sufB_app]
  have f2 : belowB (y ++ { data := #[46] } ++ c) c = true := by
    rw [belowB_app, sufB_app]
  have f3 : belowB (x ++ { data := #[46] } ++ (y ++ { data := #[46] } ++ c)) c = true := by
    rw [← cat_assoc, belowB_app, ← cat_assoc, sufB_app]
  have f4 := belowB_self (x ++ { data := #[46] } ++ (y ++ { data := #[46] } ++ c))
  have f5 := belowB_self (y ++ { data := #[46] } ++ c)
  have f6 := belowB_self c
  have f7 : belowB c (y ++ { data := #[46] } ++ c) = false := belowB_short (by simp only [ByteArray.size_append, dot_size]; omega)
  have f8 : belowB (y ++ { data := #[46] } ++ c) (x ++ { data := #[46] } ++ (y ++ { data := #[46] } ++ c)) = false := belowB_short (by simp only [ByteArray.size_append, dot_size]; omega)
  have f9 : belowB c (x ++ { data := #[46] } ++ (y ++ { data := #[46] } ++ c)) = false := belowB_short (by simp only [ByteArray.size_append, dot_size]; omega)
  clear hq
  go_enter Try.func4, Try.ntmps4
  go_wp2_with (first | (go_at_call 9; refine (unhide HQ).mono ?_; rintro e w' ⟨⟨b, rfl⟩, rfl⟩; cases b) | (go_at_call 7; refine (below7 _ _ _ (by simp only [ByteArray.size_append, dot_size, maxLen]; omega) (by simp only [ByteArray.size_append, dot_size, maxLen]; omega)).mono ?_; rintro e w' ⟨rfl, rfl⟩))
  all_goals
    go_ret
    exact ⟨rfl, rfl⟩
end Go.Proofs.Qxb6612818a
