import Derived.Test.Qxb6612903aSmall
import Derived.Deep.DeepCutAuto
namespace Go.Proofs.Qxb6612903a
open Go.RowKit Go.Maps
set_option linter.unusedVariables false

theorem below_drewN {B : Nat} {a w : World} (h : Below B a w) (k : Nat) : Below B a (w.drewN k) := ⟨h.os, h.tape, h.output, h.size, h.block⟩
def KeyR (w : World) (n0 : Nat) (x : Nat → Int) (v : Value) (w' : World) : Prop := ∃ b0 d0, v = .slice b0 n0 d0 ∧ Sl w' b0 n0 d0 (fun i => .int .u8 (x i)) ∧ (∀ y, b0 = some y → y.block < w'.heap.size) ∧ Below w.heap.size w w'
def KeysR (w : World) (n : Nat) (f : Nat → ByteArray) (v : Value) (w' : World) : Prop := ∃ b0 d0, v = .slice b0 n d0 ∧ Sl w' b0 n d0 (fun i => .string (f i)) ∧ (∀ y, b0 = some y → y.block < w'.heap.size) ∧ Below w.heap.size w w'

set_option maxHeartbeats 4000000 in
set_option maxRecDepth 100000 in
theorem top4 (a0 : Option Addr) (n0 c0 : Nat) (x : Nat → Int) (a1 : Option Addr) (n c1 : Nat) (f : Nat → ByteArray) (w : World)
    (hk : Sl w a0 n0 c0 (fun i => .int .u8 (x i))) (hs : Sl w a1 n c1 (fun i => .string (f i))) (hf : ∀ i, i < n → (f i).size ≤ maxLen) (hx : (strOf n0 x).size ≤ maxLen) :
    Calls Try.prog 4 #[.slice a0 n0 c0, .slice a1 n c1] w fun e w' => e = .returned (.bool true) ∧ Below w.heap.size w w' := by
  have b0 := Nat.le_trans hk.1 hk.2.1
  have b1 := Nat.le_trans hs.1 hs.2.1
  have HQ := hide (bytes8 a0 n0 c0 a1 n c1 f w b0 b1 hs hf)
  clear b0 b1
  go_enter Try.func4, Try.ntmps4
  go_wp2_with fail
  refine (unhide HQ).mono ?_
  rintro e w' ⟨⟨b, rfl, hbb⟩, hw⟩
  obtain rfl : w = w' := hw.symm
  clear HQ hw
  cases b
  · go_wp2
    go_ret
    exact ⟨rfl, Below.refl _ _⟩
  · obtain ⟨hn0, hn, hfs⟩ := hbb rfl
    have HFS := hide hfs
    have HF := hide hf
    clear hbb hfs hf
    have heq := fun wx a => run_neq_slice_nil_any (P := Try.prog) wx 22 5 a n0 c0 0 0 Try.underlying22
    go_upto_if 16 with fail
    go_cut [0] (fun s wc => KeyR w n0 x s wc)
    case first =>
      have hmk := fun wx => run_make_row' (P := Try.prog) 22 5 (.int .u8 0) 1 Try.underlying22 info5 rfl .i64 .i64 n0 (by omega) (by omega) wx
      have hsz : (Try.prog.info? 5).map (·.size) = some 1 := by kernel_rfl
      cases a0 with
      | none =>
        go_wp2
        go_meet
        case rel => exact ⟨none, c0, rfl, hk, (fun y hy => by cases hy), Below.refl _ _⟩
      | some ad =>
        go_wp2_with (refine wpList_copy_new _ rfl _ _ 22 rfl 5 Try.underlying22 hsz w.heap.size n0 c0 (fun _ => .int .u8 0) rfl (Arr.ofAlloc (by unfold maxLen; omega)) (some ad) (fun i => .int .u8 (x i)) rfl (hk.keptF ((Fr.refl [] _).alloc _) (by simp)) (fun _ _ => rfl) ?_; intro w1 hA1 hF1)
        go_meet
        case rel => exact ⟨_, _, rfl, (Vec.sl (.inr ⟨_, _, rfl, hA1⟩)), (fun y hy => by simp at hy; subst hy; exact hA1.lt), ((Below.refl _ _).alloc (Nat.le_refl _) _).trans (hF1.below (by simp) (by simp))⟩
    case rest =>
      obtain ⟨k0, d0, rfl, hk1, hkb1, hB1⟩ := hcut
      have hs := hs.kept hB1
      clear hk heq
      have heq := fun wx a => run_neq_slice_nil_any (P := Try.prog) wx 23 9 a n c1 0 0 Try.underlying23
      go_upto_if 25 with fail
      generalize hwc : wc = w1 at *
      clear hwc
      go_cut [1] (fun s wc => KeysR w1 n f s wc)
      case first =>
        have hmk := fun wx => run_make_row' (P := Try.prog) 23 9 (.string ByteArray.empty) 16 Try.underlying23 info9 rfl .i64 .i64 n (by omega) (by omega) wx
        have hsz : (Try.prog.info? 9).map (·.size) = some 1 := by kernel_rfl
        cases a1 with
        | none =>
          go_wp2
          go_meet
          case rel => exact ⟨none, c1, rfl, hs, (fun y hy => by cases hy), Below.refl _ _⟩
        | some ad =>
          go_wp2_with (refine wpList_copy_new _ rfl _ _ 23 rfl 9 Try.underlying23 hsz w1.heap.size n c1 (fun _ => .string ByteArray.empty) rfl (Arr.ofAlloc (by unfold maxLen; omega)) (some ad) (fun i => .string (f i)) rfl (hs.keptF ((Fr.refl [] _).alloc _) (by simp)) (fun _ _ => rfl) ?_; intro w2 hA1 hF1)
          go_meet
          case rel => exact ⟨_, _, rfl, (Vec.sl (.inr ⟨_, _, rfl, hA1⟩)), (fun y hy => by simp at hy; subst hy; exact hA1.lt), ((Below.refl _ _).alloc (Nat.le_refl _) _).trans (hF1.below (by simp) (by simp))⟩
      case rest =>
        obtain ⟨k1, d1, rfl, hs2, hsb2, hB2⟩ := hcut
        have hk2 := hk1.kept hB2
        have hB := hB1.trans (hB2.mono hB1.size)
        have hkb2 : ∀ y, k0 = some y → y.block < wc.heap.size := fun y hy => Nat.lt_of_lt_of_le (hkb1 y hy) hB2.size
        clear hs heq hk1 hB1 hB2 hkb1
        generalize hwc : wc = w2 at *
        clear hwc
        go_wp2
        go_loop [7, 39] (fun t i => ∃ (k : Nat) (z : Int), k ≤ n ∧ i = .int .i64 k ∧ t = .int .i64 z ∧ 0 ≤ z ∧ z ≤ 1048576) (fun _ i => n - (intOf i).toNat)
        case atStart => exact ⟨0, _, Nat.zero_le _, rfl, rfl, by omega, by omega⟩
        case round =>
          obtain ⟨k, z, hkn, rfl, rfl, hz0, hz1⟩ := hrel
          by_cases hlt : k < n
          · obtain ⟨b, off, rfl, hc⟩ := hs2.2.2.2 (by omega)
            have kk := hc k hlt
            have hfk := unhide HFS k hlt
            obtain ⟨s, hsd⟩ : ∃ s, f k = s := ⟨_, rfl⟩
            simp only [hsd] at kk hfk
            clear hc hsd
            have e1 : (k : Int) < (n : Int) := by omega
            go_wp2
            · go_ret
              exact ⟨rfl, hB⟩
            · exact ⟨⟨k + 1, _, by omega, by go_num, rfl, by omega, by omega⟩, by simp [intOf]; omega⟩
          · have e : n = k := by omega
            subst e
            have CF := hide (find6 k0 n0 d0 x k1 n d1 f w2 (by omega) hs2 hk2 hsb2 hkb2 (unhide HF) hx)
            go_wp2_with fail
            refine (unhide CF).mono ?_
            clear CF
            rintro e w3 ⟨rfl, hB3⟩
            have hs3 := hs2.kept hB3
            have hk3 := hk2.kept hB3
            have hBB := hB.trans (hB3.mono hB.size)
            have CL := hide (fun j => last7 k0 n0 d0 x k1 n d1 f (w3.drewN j) (by omega) hs3 hk3)
            have hcv : ∀ j, (convert 22 9 (.slice k0 n0 d0)).run Try.prog (w3.drewN j) = .ok (.string (strOf n0 x)) (w3.drewN j) := fun j => conv_sl hk3 j
            clear hs2 hk2 hsb2 hkb2 hB3 hB hk3
            obtain ⟨K, hK⟩ : ∃ K, strOf n0 x = K := ⟨_, rfl⟩
            rw [hK] at hcv CL
            rw [hK]
            clear hK hx
            by_cases h0 : n = 0
            · have hb0 : ((n : Int) == 0) = true := by simp [h0]
              have hfd : findF K f n = -1 := by unfold findF; rw [if_pos h0]
              rw [hfd]
              clear hfd h0
              go_wp2
              go_quiet (fail)
              go_wp2
              go_ret
              exact ⟨rfl, below_drewN hBB _⟩
            · have hb0 : ((n : Int) == 0) = false := by simp; omega
              obtain ⟨L, hL⟩ : ∃ L, f (n - 1) = L := ⟨_, rfl⟩
              obtain ⟨b, off, rfl, hc⟩ := hs3.2.2.2 (by omega)
              have kk := hc (n - 1) (by omega)
              simp only [hL] at kk
              have HL := hide hL
              have e1 : (n : Int) - 1 < (n : Int) := by omega
              have e2 : (0 : Int) ≤ (n : Int) - 1 := by omega
              have e3 : ((n : Int) - 1).toNat = n - 1 := by omega
              clear hc hs3 hL
              cases hb1 : Op.bytesLess K.toList L.toList with
              | false =>
                cases hb2 : (K.toList == L.toList) with
                | false =>
                  have hfd : findF K f n = -1 := by unfold findF gtB; rw [if_neg h0, unhide HL, hb1, hb2]; rfl
                  rw [hfd]
                  clear hfd
                  go_wp2
                  go_quiet (fail)
                  go_wp2
                  go_ret
                  exact ⟨rfl, below_drewN hBB _⟩
                | true =>
                  have hfd : findF K f n = lastIdx K f n := by unfold findF gtB; rw [if_neg h0, unhide HL, hb1, hb2]; rfl
                  rw [hfd]
                  clear hfd
                  go_wp2
                  go_quiet (fail)
                  go_wp2_with fail
                  refine (unhide CL _).mono ?_
                  rintro e w4 ⟨rfl, rfl⟩
                  go_wp2
                  go_ret
                  exact ⟨ret_bool (by simp), below_drewN hBB _⟩
              | true =>
                have hfd : findF K f n = lastIdx K f n := by unfold findF gtB; rw [if_neg h0, unhide HL, hb1]; rfl
                rw [hfd]
                clear hfd
                go_wp2
                go_quiet (fail)
                go_wp2_with fail
                refine (unhide CL _).mono ?_
                rintro e w4 ⟨rfl, rfl⟩
                go_wp2
                go_ret
                exact ⟨ret_bool (by simp), below_drewN hBB _⟩
end Go.Proofs.Qxb6612903a
