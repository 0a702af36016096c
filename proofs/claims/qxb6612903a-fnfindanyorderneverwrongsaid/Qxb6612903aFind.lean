import Derived.Test.Qxb6612903aFind0
namespace Go.Proofs.Qxb6612903a
open Go.RowKit Go.Maps
set_option linter.unusedVariables false

set_option maxHeartbeats 1000000 in
set_option maxRecDepth 100000 in
theorem find9 (ab kb : Nat) (a0 : Option Addr) (n0 c0 : Nat) (x : Nat → Int) (a1 : Option Addr) (n c1 : Nat) (f : Nat → ByteArray) (w : World) (hn : n ≤ 2000000) (hne : ab ≠ kb)
    (hA : Arr w ab 28 1 1 (fun _ => .map none)) (hK : w.cell? ⟨kb, 0, none⟩ = some (.slice a1 n c1)) (hs : Sl w a1 n c1 (fun i => .string (f i))) (hk : Sl w a0 n0 c0 (fun i => .int .u8 (x i)))
    (hab1 : ∀ y, a1 = some y → y.block ≠ ab) (hab0 : ∀ y, a0 = some y → y.block ≠ ab) (hf : ∀ i, i < n → (f i).size ≤ maxLen) (hx : (strOf n0 x).size ≤ maxLen) :
    Calls Try.prog 9 #[.pointer (some ⟨ab, 0, none⟩), .slice a0 n0 c0, .int .i64 n, .func (.func 10) #[] #[.pointer (some ⟨kb, 0, none⟩)]] w fun e w' =>
      e = .returned (.int .i64 (findF (strOf n0 x) f n)) ∧ Fr [ab] w w' := by
  have c0' := hA.cell (i := 0) (by omega)
  have heq := fun wx r => run_eql_map_nil (P := Try.prog) wx 26 9 3 r Try.underlying26
  by_cases hn0 : n = 0
  · subst hn0
    go_enter Try.func9, Try.ntmps9
    go_wp2_with fail
    go_quiet (fail)
    go_wp2
    go_ret
    exact ⟨rfl, (Fr.refl _ _).drewN _⟩
  · have hb0 : ((n : Int) == 0) = false := by simp; omega
    have hc1 : ∀ k, (convert 22 9 (.slice a0 n0 c0)).run Try.prog (w.drewN k) = .ok (.string (strOf n0 x)) (w.drewN k) := fun k => conv_sl hk k
    have e1 : ((n : Int) - 1) = ((n - 1 : Nat) : Int) := by omega
    have HCL : Hid (∀ k, Calls Try.prog 10 #[.int .i64 ((n : Int) - 1), .pointer (some ⟨kb, 0, none⟩)] (w.drewN k) fun e w' => e = .returned (.string (f (n - 1))) ∧ w' = w.drewN k) := fun k => by
      rw [e1]; exact clo10 kb a1 n c1 (n - 1) f (w.drewN k) (by omega) hn hK hs
    clear e1
    obtain ⟨K, hKd⟩ : ∃ K, strOf n0 x = K := ⟨_, rfl⟩
    rw [hKd] at hc1 hx
    simp only [hKd]
    have HKD := hide hKd
    clear hKd
    obtain ⟨L, hL⟩ : ∃ L, f (n - 1) = L := ⟨_, rfl⟩
    rw [hL] at HCL
    have HL := hide hL
    clear hL
    cases hb1 : Op.bytesLess K.toList L.toList with
    | false =>
      cases hb2 : (K.toList == L.toList) with
      | false =>
        have HF : Hid (findF K f n = -1) := by
          show _ = _
          unfold findF gtB
          rw [if_neg hn0, unhide HL, hb1, hb2]; rfl
        go_enter Try.func9, Try.ntmps9
        go_wp2_with fail
        go_quiet ((go_at_call 10; exact Calls.quiet_of_same (unhide HCL _)))
        go_wp2
        go_ret
        exact ⟨ret_int (unhide HF).symm, (Fr.refl _ _).drewN _⟩
      | true =>
        have HF := hide (findF_eq hn0 (unhide HL) hb2)
        go_enter Try.func9, Try.ntmps9
        go_wp2_with fail
        go_quiet ((go_at_call 10; exact Calls.quiet_of_same (unhide HCL _)))
        go_wp2
        go_quiet ((go_at_call 10; exact (unhide HCL _).mono (fun e w' h => ⟨h.1, _, h.2⟩)))
        go_wp2
        go_ret
        exact ⟨ret_int (unhide HF).symm, (Fr.refl _ _).drewN _⟩
    | true =>
      cases hb2 : (K.toList == L.toList) with
      | true =>
        have HF := hide (findF_eq hn0 (unhide HL) hb2)
        go_enter Try.func9, Try.ntmps9
        go_wp2_with fail
        go_quiet ((go_at_call 10; exact Calls.quiet_of_same (unhide HCL _)))
        go_wp2
        go_quiet ((go_at_call 10; exact (unhide HCL _).mono (fun e w' h => ⟨h.1, _, h.2⟩)))
        go_wp2
        go_ret
        exact ⟨ret_int (unhide HF).symm, (Fr.refl _ _).drewN _⟩
      | false =>
        have HF : Hid (findF K f n = lastIdx K f n) := by
          show _ = _
          unfold findF gtB
          rw [if_neg hn0, unhide HL, hb1, hb2]; rfl
        have hmm := fun wx => run_mm n wx
        go_enter Try.func9, Try.ntmps9
        go_wp2_with fail
        go_quiet ((go_at_call 10; exact Calls.quiet_of_same (unhide HCL _)))
        go_wp2
        go_quiet ((go_at_call 10; exact (unhide HCL _).mono (fun e w' h => ⟨h.1, _, h.2⟩)))
        generalize hWq : (w.drewN _).drewN _ = wq
        have gA : Arr wq ab 28 1 1 (fun _ => .map none) := by rw [← hWq]; exact hA
        have gK : wq.cell? ⟨kb, 0, none⟩ = some (.slice a1 n c1) := by rw [← hWq]; exact hK
        have gs : Sl wq a1 n c1 (fun i => .string (f i)) := by rw [← hWq]; exact hs
        have gk : Sl wq a0 n0 c0 (fun i => .int .u8 (x i)) := by rw [← hWq]; exact hk
        have gF : Fr [ab] w wq := by rw [← hWq]; exact ((Fr.refl _ _).drewN _).drewN _
        clear hWq hA hK hs hk hc1 HCL c0'
        have c0 := (gA.alloc (.map #[] 0)).cell (i := 0) (by omega)
        have z0 := (gA.alloc (.map #[] 0)).free 0
        go_wp2
        clear hmm heq
        have hlt := gA.lt
        have hM0 := World.ownsMap_made wq Try.prog 9 (plainElem (H := Unit) Try.prog 3)
        have hM1 := hM0.setCell (a := ⟨ab, 0, none⟩) (by show wq.heap.size ≠ ab; omega) (.map (some wq.heap.size))
        have hA1 : Arr ((wq.alloc (.map #[] 0)).setCell ⟨ab, 0, none⟩ (.map (some wq.heap.size))) ab 28 1 1 (fun _ => .map (some wq.heap.size)) :=
          ((gA.alloc (.map #[] 0)).set (i := 0) (by omega) _).congr (fun i hi => by have : i = 0 := by omega
                                                                                    subst this; simp [upd])
        have hF1 : Fr [ab] wq ((wq.alloc (.map #[] 0)).setCell ⟨ab, 0, none⟩ (.map (some wq.heap.size))) := ((Fr.refl _ _).alloc _).setCell (by simp) _
        clear c0 z0 hM0
        generalize hMB : wq.heap.size = MB at hM1 hA1 hF1 ⊢
        generalize hW2 : (wq.alloc (.map #[] 0)).setCell ⟨ab, 0, none⟩ (.map (some MB)) = W2 at hM1 hA1 hF1 ⊢
        have hMB' : ab ≠ MB := by omega
        have HMB := hide hMB
        clear hMB hW2 hlt
        go_loopw [46] (fun i wr => ∃ (k : Nat) (D : DataW Unit), k ≤ n ∧ i = .int .i64 k ∧ wr.ownsMap Try.prog 9 (plainElem Try.prog 3) MB k D ∧ Arr wr ab 28 1 1 (fun _ => .map (some MB)) ∧ Fr [ab] wq wr ∧ MapIs D K f k) (fun i _ => n - (intOf i).toNat)
        case atStart => exact ⟨0, _, Nat.zero_le _, rfl, hM1, hA1, hF1, mapIs_zero K f⟩
        case round =>
          obtain ⟨k, D, hkn, rfl, hM, hAr, hFr, hIs⟩ := hrel
          clear hM1 hA1 hF1
          have c0 := hAr.cell (i := 0) (by omega)
          by_cases hlt : k < n
          · have hcl := clo10 kb a1 n c1 k f wr.drew hlt hn (hFr.drew.cell gK (by simp; omega)) (gs.keptF hFr.drew (fun y hy => by simpa using hab1 y hy))
            have HCL := hide hcl
            clear hcl
            obtain ⟨w1, hupd, hM1, hg1⟩ := hM.drew.update law Try.underlying26 (t := 26) (by unfold maxLen; omega) (Go.WideMaps.keyOf_string_mk Try.underlying9 (hf k hlt)) (plainElem_int (H := Unit) (P := Try.prog) Try.underlying3 (WalkArith.wf_i64 (n := (k : Int)) (by omega)))
            go_wp2_with fail
            go_region_with (go_at_call 10; refine (unhide HCL).mono ?_; rintro e w' ⟨rfl, rfl⟩)
            all_goals
              go_wp2
              go_roundw
              case measure => simp [intOf]; omega
              case rel => exact ⟨k + 1, _, by omega, by go_num, hM1, Arr.kept (w := wr.drew) hAr (Fr.grown hg1) (by simpa using hMB'), hFr.drew.trans (Fr.grown hg1) (by have := unhide HMB; simp; omega), mapIs_step hIs⟩
          · have e : n = k := by omega
            subst e
            have hcv := fun j => conv_sl (gk.keptF hFr (fun y hy => by simpa using hab0 y hy)) j
            simp only [unhide HKD] at hcv
            obtain ⟨c, hat, hlook⟩ := look_all hM hx
            have HAT := hide hat
            clear hat
            obtain ⟨hm, hor⟩ := hIs
            rcases hor with ⟨hl, hh⟩ | ⟨hl, hh, hv⟩
            · rw [hh] at hlook
              have HL2 := hide hl
              clear hl hh hm
              go_wp2_with fail
              go_quiet (fail)
              go_wp2
              go_ret
              exact ⟨ret_int (by rw [unhide HF, unhide HL2]), gF.trans' (hFr.drewN _)⟩
            · rw [hh] at hlook
              have HL2 : Hid (c = lastIdx K f n) := by
                have := unhide HAT
                rw [hv] at this
                simp at this
                exact this.symm
              clear hl hh hm hv
              go_wp2_with fail
              go_quiet (fail)
              go_wp2
              go_ret
              exact ⟨ret_int (by rw [unhide HF, unhide HL2]), gF.trans' (hFr.drewN _)⟩
end Go.Proofs.Qxb6612903a
