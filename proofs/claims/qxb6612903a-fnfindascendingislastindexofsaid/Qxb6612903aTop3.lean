import Derived.Test.Qxb6612903aTop4
import Derived.Deep.DeepCutAuto
namespace Go.Proofs.Qxb6612903a
open Go.RowKit Go.Maps
set_option linter.unusedVariables false


theorem less_trans : ∀ (a b c : List UInt8), Op.bytesLess a b = true → Op.bytesLess b c = true → Op.bytesLess a c = true
  | _, [], _, h1, _ => by simp [Op.bytesLess] at h1
  | _, _ :: _, [], _, h2 => by simp [Op.bytesLess] at h2
  | [], _ :: _, _ :: _, _, _ => by simp [Op.bytesLess]
  | x :: a, y :: b, z :: c, h1, h2 => by
    simp only [Op.bytesLess, Bool.or_eq_true, Bool.and_eq_true, decide_eq_true_eq, beq_iff_eq] at h1 h2 ⊢
    rcases h1 with h1 | ⟨rfl, h1⟩
    · rcases h2 with h2 | ⟨rfl, h2⟩
      · exact .inl (UInt8.lt_trans h1 h2)
      · exact .inl h1
    · rcases h2 with h2 | ⟨rfl, h2⟩
      · exact .inl h2
      · exact .inr ⟨rfl, less_trans a b c h1 h2⟩

theorem gt_down {K a b : ByteArray} (h : gtB a b = false) (hk : gtB K b = true) : gtB K a = true := by
  unfold gtB at *
  simp only [Bool.not_eq_false', Bool.or_eq_true, beq_iff_eq, Bool.not_eq_true', Bool.or_eq_false_iff, beq_eq_false_iff_ne] at h hk ⊢
  obtain ⟨h1, h2⟩ := hk
  refine ⟨?_, ?_⟩
  · cases hl : Op.bytesLess K.toList a.toList
    · rfl
    · rcases h with h | h
      · rw [less_trans _ _ _ hl h] at h1; cases h1
      · rw [h] at hl; rw [hl] at h1; cases h1
  · intro e
    rcases h with h | h
    · rw [e, h] at h1; cases h1
    · exact h2 (e.trans h)

theorem gt_ne {K a : ByteArray} (h : gtB K a = true) : eqB a K = false := by
  unfold gtB at h
  unfold eqB
  simp only [Bool.not_eq_true', Bool.or_eq_false_iff, beq_eq_false_iff_ne] at h ⊢
  exact fun e => h.2 e.symm

theorem sorted_last {K : ByteArray} {f : Nat → ByteArray} : ∀ n, (∀ i, 1 ≤ i → i < n → gtB (f (i - 1)) (f i) = false) → (n = 0 ∨ gtB K (f (n - 1)) = true) → lastIdx K f n = -1
  | 0, _, _ => rfl
  | n + 1, hs, h => by
    have h : gtB K (f n) = true := by
      rcases h with h | h
      · omega
      · exact h
    have hne := gt_ne h
    simp only [lastIdx, hne]
    refine sorted_last n (fun i h1 h2 => hs i h1 (by omega)) ?_
    by_cases e : n = 0
    · exact .inl e
    · exact .inr (gt_down (hs n (by omega) (by omega)) h)

theorem find_sorted {K : ByteArray} {f : Nat → ByteArray} {n : Nat} (hs : ∀ i, 1 ≤ i → i < n → gtB (f (i - 1)) (f i) = false) : findF K f n = lastIdx K f n := by
  unfold findF
  by_cases h0 : n = 0
  · subst h0; rfl
  · rw [if_neg h0]
    by_cases hg : gtB K (f (n - 1)) = true
    · rw [if_pos hg, sorted_last n hs (.inr hg)]
    · rw [if_neg hg]

set_option maxHeartbeats 4000000 in
set_option maxRecDepth 100000 in
theorem top3 (a0 : Option Addr) (n0 c0 : Nat) (x : Nat → Int) (a1 : Option Addr) (n c1 : Nat) (f : Nat → ByteArray) (w : World)
    (hk : Sl w a0 n0 c0 (fun i => .int .u8 (x i))) (hs : Sl w a1 n c1 (fun i => .string (f i))) (hf : ∀ i, i < n → (f i).size ≤ maxLen) (hx : (strOf n0 x).size ≤ maxLen) :
    Calls Try.prog 3 #[.slice a0 n0 c0, .slice a1 n c1] w fun e w' => e = .returned (.bool true) ∧ Below w.heap.size w w' := by
  have b0 := Nat.le_trans hk.1 hk.2.1
  have b1 := Nat.le_trans hs.1 hs.2.1
  have HQ := hide (bytes5 a0 n0 c0 a1 n c1 f w b0 b1 hs hf)
  clear b0 b1
  go_enter Try.func3, Try.ntmps3
  go_wp2_with fail
  refine (unhide HQ).mono ?_
  rintro e w' ⟨⟨b, rfl, hbb⟩, hw⟩
  obtain rfl : w = w' := hw.symm
  clear HQ hw
  cases b
  · go_wp2
    go_ret
    exact ⟨rfl, Below.refl _ _⟩
  · obtain ⟨hn0, hn, hfs⟩ := hbb rfl
    have HFS := hide hfs
    have HF := hide hf
    clear hbb hfs hf
    have heq := fun wx a => run_neq_slice_nil_any (P := Try.prog) wx 22 5 a n0 c0 0 0 Try.underlying22
    go_upto_if 16 with fail
    go_cut [0] (fun s wc => KeyR w n0 x s wc)
    case first =>
      have hmk := fun wx => run_make_row' (P := Try.prog) 22 5 (.int .u8 0) 1 Try.underlying22 info5 rfl .i64 .i64 n0 (by omega) (by omega) wx
      have hsz : (Try.prog.info? 5).map (·.size) = some 1 := by kernel_rfl
      cases a0 with
      | none =>
        go_wp2
        go_meet
        case rel => exact ⟨none, c0, rfl, hk, (fun y hy => by cases hy), Below.refl _ _⟩
      | some ad =>
        go_wp2_with (refine wpList_copy_new _ rfl _ _ 22 rfl 5 Try.underlying22 hsz w.heap.size n0 c0 (fun _ => .int .u8 0) rfl (Arr.ofAlloc (by unfold maxLen; omega)) (some ad) (fun i => .int .u8 (x i)) rfl (hk.keptF ((Fr.refl [] _).alloc _) (by simp)) (fun _ _ => rfl) ?_; intro w1 hA1 hF1)
        go_meet
        case rel => exact ⟨_, _, rfl, (Vec.sl (.inr ⟨_, _, rfl, hA1⟩)), (fun y hy => by simp at hy; subst hy; exact hA1.lt), ((Below.refl _ _).alloc (Nat.le_refl _) _).trans (hF1.below (by simp) (by simp))⟩
    case rest =>
      obtain ⟨k0, d0, rfl, hk1, hkb1, hB1⟩ := hcut
      have hs := hs.kept hB1
      clear hk heq
      have heq := fun wx a => run_neq_slice_nil_any (P := Try.prog) wx 23 9 a n c1 0 0 Try.underlying23
      go_upto_if 25 with fail
      generalize hwc : wc = w1 at *
      clear hwc
      go_cut [1] (fun s wc => KeysR w1 n f s wc)
      case first =>
        have hmk := fun wx => run_make_row' (P := Try.prog) 23 9 (.string ByteArray.empty) 16 Try.underlying23 info9 rfl .i64 .i64 n (by omega) (by omega) wx
        have hsz : (Try.prog.info? 9).map (·.size) = some 1 := by kernel_rfl
        cases a1 with
        | none =>
          go_wp2
          go_meet
          case rel => exact ⟨none, c1, rfl, hs, (fun y hy => by cases hy), Below.refl _ _⟩
        | some ad =>
          go_wp2_with (refine wpList_copy_new _ rfl _ _ 23 rfl 9 Try.underlying23 hsz w1.heap.size n c1 (fun _ => .string ByteArray.empty) rfl (Arr.ofAlloc (by unfold maxLen; omega)) (some ad) (fun i => .string (f i)) rfl (hs.keptF ((Fr.refl [] _).alloc _) (by simp)) (fun _ _ => rfl) ?_; intro w2 hA1 hF1)
          go_meet
          case rel => exact ⟨_, _, rfl, (Vec.sl (.inr ⟨_, _, rfl, hA1⟩)), (fun y hy => by simp at hy; subst hy; exact hA1.lt), ((Below.refl _ _).alloc (Nat.le_refl _) _).trans (hF1.below (by simp) (by simp))⟩
      case rest =>
        obtain ⟨k1, d1, rfl, hs2, hsb2, hB2⟩ := hcut
        have hk2 := hk1.kept hB2
        have hB := hB1.trans (hB2.mono hB1.size)
        have hkb2 : ∀ y, k0 = some y → y.block < wc.heap.size := fun y hy => Nat.lt_of_lt_of_le (hkb1 y hy) hB2.size
        clear hs heq hk1 hB1 hB2 hkb1
        generalize hwc : wc = w2 at *
        clear hwc
        go_wp2
        go_loop [7, 39] (fun t i => ∃ (k : Nat) (z : Int), k ≤ n ∧ i = .int .i64 k ∧ t = .int .i64 z ∧ 0 ≤ z ∧ z ≤ 1048576) (fun _ i => n - (intOf i).toNat)
        case atStart => exact ⟨0, _, Nat.zero_le _, rfl, rfl, by omega, by omega⟩
        case round =>
          obtain ⟨k, z, hkn, rfl, rfl, hz0, hz1⟩ := hrel
          by_cases hlt : k < n
          · obtain ⟨b, off, rfl, hc⟩ := hs2.2.2.2 (by omega)
            have kk := hc k hlt
            have hfk := unhide HFS k hlt
            obtain ⟨s, hsd⟩ : ∃ s, f k = s := ⟨_, rfl⟩
            simp only [hsd] at kk hfk
            clear hc hsd
            have e1 : (k : Int) < (n : Int) := by omega
            go_wp2
            · go_ret
              exact ⟨rfl, hB⟩
            · exact ⟨⟨k + 1, _, by omega, by go_num, rfl, by omega, by omega⟩, by simp [intOf]; omega⟩
          · have e : n = k := by omega
            subst e
            go_wp2
            go_loopw [10] (fun i wr => ∃ j q : Nat, 1 ≤ j ∧ (j ≤ n ∨ j = 1) ∧ i = .int .i64 j ∧ (∀ i, 1 ≤ i → i < j → gtB (f (i - 1)) (f i) = false) ∧ wr = w2.drewN q) (fun i _ => n - (intOf i).toNat)
            case atStart => exact ⟨1, 0, Nat.le_refl _, .inr rfl, rfl, fun i h1 h2 => by omega, rfl⟩
            case round =>
              obtain ⟨j, q, hj1, hjn, rfl, hso, rfl⟩ := hrel
              have HSO := hide hso
              clear hso
              by_cases hlt : j < n
              · obtain ⟨b, off, rfl, hc⟩ := hs2.2.2.2 (by omega)
                have kk := hc j hlt
                have kk1 := hc (j - 1) (by omega)
                obtain ⟨s, hsd⟩ : ∃ s, f j = s := ⟨_, rfl⟩
                obtain ⟨t, htd⟩ : ∃ t, f (j - 1) = t := ⟨_, rfl⟩
                simp only [hsd] at kk
                simp only [htd] at kk1
                have HS := hide hsd
                have HT := hide htd
                clear hc hsd htd
                have e1 : (j : Int) < (n : Int) := by omega
                have e2 : (j : Int) - 1 < (n : Int) := by omega
                have e3 : (0 : Int) ≤ (j : Int) - 1 := by omega
                have e4 : ((j : Int) - 1).toNat = j - 1 := by omega
                cases hg : gtB t s with
                | true =>
                  have hg1 : Op.bytesLess t.toList s.toList = false := by unfold gtB at hg; simp at hg; exact hg.1
                  have hg2 : (t.toList == s.toList) = false := by unfold gtB at hg; simp at hg; rw [beq_eq_false_iff_ne]; exact hg.2
                  clear hg
                  go_wp2_with fail
                  go_quiet (fail)
                  go_wp2
                  go_ret
                  exact ⟨rfl, below_drewN (below_drewN hB _) _⟩
                | false =>
                  have HG : Hid (gtB (f (j - 1)) (f j) = false) := by
                    show _ = _
                    rw [unhide HS, unhide HT]; exact hg
                  have hg1 : (Op.bytesLess t.toList s.toList || (t.toList == s.toList)) = true := by unfold gtB at hg; rw [Bool.not_eq_false'] at hg; exact hg
                  clear hg
                  have hsplit : (Op.bytesLess t.toList s.toList = true) ∨ (Op.bytesLess t.toList s.toList = false ∧ (t.toList == s.toList) = true) := by
                    cases hb : Op.bytesLess t.toList s.toList
                    · right; rw [hb] at hg1; exact ⟨rfl, by simpa using hg1⟩
                    · exact .inl rfl
                  clear hg1
                  rcases hsplit with hb1 | ⟨hb1, hb2⟩
                  all_goals
                    go_wp2_with fail
                    go_quiet (fail)
                    go_wp2
                    go_roundw
                    case measure => simp [intOf]; omega
                    case rel =>
                      refine ⟨j + 1, _, by omega, .inl (by omega), by go_num, fun i h1 h2 => ?_, rfl⟩
                      by_cases e : i = j
                      · subst e; exact unhide HG
                      · exact unhide HSO i h1 (by omega)
              · have hfd : findF (strOf n0 x) f n = lastIdx (strOf n0 x) f n := find_sorted (fun i h1 h2 => unhide HSO i h1 (by omega))
                have CF := hide (find6 k0 n0 d0 x k1 n d1 f (w2.drewN q) (by omega) hs2 hk2 hsb2 hkb2 (unhide HF) hx)
                rw [hfd] at CF
                clear hfd
                go_wp2_with fail
                refine (unhide CF).mono ?_
                clear CF
                rintro e w3 ⟨rfl, hB3⟩
                have hs2' : Sl (w2.drewN q) k1 n d1 (fun i => .string (f i)) := hs2
                have hk2' : Sl (w2.drewN q) k0 n0 d0 (fun i => .int .u8 (x i)) := hk2
                have hs3 := hs2'.kept hB3
                have hk3 := hk2'.kept hB3
                have hBq : Below w.heap.size w (w2.drewN q) := below_drewN hB q
                have hBB := hBq.trans (hB3.mono hBq.size)
                have CL := hide (last7 k0 n0 d0 x k1 n d1 f w3 (by omega) hs3 hk3)
                clear hs2 hk2 hsb2 hkb2 hB3 hB hk3 hs3 hs2' hk2' hBq
                obtain ⟨v, hv⟩ : ∃ v, lastIdx (strOf n0 x) f n = v := ⟨_, rfl⟩
                rw [hv] at CL
                rw [hv]
                clear hv
                go_wp2_with fail
                refine (unhide CL).mono ?_
                rintro e w4 ⟨rfl, rfl⟩
                go_wp2
                go_ret
                exact ⟨ret_bool (by simp), hBB⟩
end Go.Proofs.Qxb6612903a
