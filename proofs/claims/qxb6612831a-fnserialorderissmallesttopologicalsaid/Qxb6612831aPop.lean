import Derived.Test.Qxb6612831aKit
import Derived.Test.Qxb6612831aHeap
namespace Go.Proofs.Qxb6612831a
open Go.RowKit

/-- places as int32 values. -/
def V32 (f : Nat → Int) : Nat → Value := fun i => .int .i32 (f i)
def put0 (f : Nat → Int) (x : Int) : Nat → Int := fun i => if i = 0 then x else f i

theorem V32_upd (f : Nat → Int) (i : Nat) (x : Int) : upd (V32 f) i (.int .i32 x) = V32 (fun j => if j = i then x else f j) := by
  funext j; unfold upd V32; by_cases h : j = i <;> simp [h]

theorem V32_swp (f : Nat → Int) (i j : Nat) (x y : Int) (hx : f i = x) (hy : f j = y) : upd (upd (V32 f) i (.int .i32 y)) j (.int .i32 x) = V32 (swp f i j) := by
  funext k
  subst hx hy
  unfold upd V32 swp
  by_cases h1 : k = j
  · by_cases h2 : k = i
    · subst h1 h2; simp
    · subst h1; simp [h2]
  · by_cases h2 : k = i
    · subst h2; simp [h1]
    · simp [h1, h2]

def PopPost (hb g n cap : Nat) (f : Nat → Int) (w w' : World) : Prop :=
  ∃ f', Arr w' hb 54 1 1 (fun _ => .slice (some ⟨g, 0, none⟩) n cap) ∧ Arr w' g 21 n cap (V32 f') ∧ IsHeap f' n ∧ Same (put0 f (f n)) f' n ∧ Fr [hb, g] w w'

theorem pop_end {hb g n cap : Nat} {f fj : Nat → Int} {w wr : World} {v : Value} (hne : hb ≠ g) (hH : Arr wr hb 54 1 1 (fun _ => v)) (hA : Arr wr g 21 n cap (V32 fj)) (hF : Fr [g] w wr) (hh : IsHeap fj n) (hS : Same (put0 f (f n)) fj n) :
    PopPost hb g n cap f w (wr.setCell ⟨hb, 0, none⟩ (.slice (some ⟨g, 0, none⟩) n cap)) :=
  ⟨fj, (hH.set (i := 0) (by omega) _).congr (fun i hi => by have : i = 0 := by omega
                                                            subst this; simp [upd]), hA.setAny (fun e => hne e) _, hh, hS, (hF.mono (by simp)).setCell (by simp) _⟩

theorem PopPost.drewN {hb g n cap : Nat} {f : Nat → Int} {w w' : World} (h : PopPost hb g n cap f w w') (k : Nat) : PopPost hb g n cap f w (w'.drewN k) := by
  obtain ⟨f', a, b, c, d, e⟩ := h
  exact ⟨f', a, b, c, d, e.drewN k⟩

theorem swap_arr {g n cap i d : Nat} {fj : Nat → Int} {wr : World} {xi xd : Int} (hA : Arr wr g 21 n cap (V32 fj)) (hi : i < n) (hd : d < n) (hxi : fj i = xi) (hxd : fj d = xd) :
    Arr ((wr.setCell ⟨g, i, none⟩ (.int .i32 xd)).setCell ⟨g, d, none⟩ (.int .i32 xi)) g 21 n cap (V32 (swp fj i d)) := by
  have hle := hA.le
  have := (hA.set (i := i) (by omega) (.int .i32 xd)).set (i := d) (by omega) (.int .i32 xi)
  rw [V32_swp fj i d xi xd hxi hxd] at this
  exact this

set_option maxHeartbeats 4000000 in
set_option maxRecDepth 100000 in
theorem pop22 (hb g n cap : Nat) (f : Nat → Int) (w : World) (hne : hb ≠ g) (hn : n ≤ 1000000)
    (hH : Arr w hb 54 1 1 (fun _ => .slice (some ⟨g, 0, none⟩) (n + 1) cap)) (hA : Arr w g 21 (n + 1) cap (V32 f)) (hh : IsHeap f (n + 1)) :
    Calls Try.prog 22 #[.pointer (some ⟨hb, 0, none⟩)] w fun e w' => e = .returned (.int .i32 (f 0)) ∧ PopPost hb g n cap f w w' := by
  have hcap := hA.capLe
  have hle := hA.le
  have c0 := hH.cell (i := 0) (by omega)
  have c1 : w.cell? ⟨g, 0, none⟩ = some (.int .i32 (f 0)) := hA.cell (i := 0) (by omega)
  have c2 : w.cell? ⟨g, n, none⟩ = some (.int .i32 (f n)) := hA.cell (i := n) (by omega)
  have z1 := hA.free 0
  unfold maxLen at hcap
  have hA1 : Arr (w.setCell ⟨g, 0, none⟩ (.int .i32 (f n))) g 21 n cap (V32 (put0 f (f n))) := by
    have := (hA.set (i := 0) (by omega) (.int .i32 (f n))).less (m := n) (by omega)
    rw [V32_upd] at this; exact this
  have HA1 := hide hA1
  have HD := hide (pop_down hh (put0 f (f n)) (fun j hj _ => by simp [put0]; omega))
  clear hA1
  go_enter Try.func22, Try.ntmps22
  go_wp2
  clear c0 c1 c2 z1
  go_loopw [6] (fun i wr => ∃ (j : Nat) (fj : Nat → Int), i = .int .i64 j ∧ j ≤ n ∧ DownAt fj n j ∧ Same (put0 f (f n)) fj n ∧ Arr wr g 21 n cap (V32 fj) ∧ Fr [g] w wr) (fun i _ => n - (intOf i).toNat)
  case atStart => exact ⟨0, _, rfl, Nat.zero_le _, unhide HD, Same.refl _ _, unhide HA1, (Fr.refl _ _).setCell (by simp) _⟩
  case round =>
    obtain ⟨j, fj, rfl, hjn, hD, hS, hAj, hF⟩ := hrel
    clear HD HA1
    have hHb : Arr wr hb 54 1 1 (fun _ => .slice (some ⟨g, 0, none⟩) (n + 1) cap) := hH.kept hF (by simpa using hne)
    have d0 := hHb.cell (i := 0) (by omega)
    have d1 := hHb.free 0
    clear hH hA hh
    by_cases k1 : 2 * j + 1 < n
    · have k1' : 2 * (j : Int) + 1 < (n : Int) := by omega
      have jn' : (j : Int) < (n : Int) := by omega
      have p1 : (0 : Int) ≤ 2 * (j : Int) + 1 := by omega
      have p2 : (0 : Int) ≤ 2 * (j : Int) + 1 + 1 := by omega
      have e1 : (2 * (j : Int) + 1).toNat = 2 * j + 1 := by omega
      have e2 : (2 * (j : Int) + 1 + 1).toNat = 2 * j + 1 + 1 := by omega
      obtain ⟨xi, hxi⟩ : ∃ x, fj j = x := ⟨_, rfl⟩
      have ci : wr.cell? ⟨g, j, none⟩ = some (.int .i32 xi) := by rw [← hxi]; exact hAj.cell (by omega)
      have fi := hAj.free j
      obtain ⟨xl, hxl⟩ : ∃ x, fj (2 * j + 1) = x := ⟨_, rfl⟩
      have cl : wr.cell? ⟨g, 2 * j + 1, none⟩ = some (.int .i32 xl) := by rw [← hxl]; exact hAj.cell (by omega)
      have fl := hAj.free (2 * j + 1)
      have Hxi := hide hxi
      have Hxl := hide hxl
      clear hxi hxl
      by_cases k2 : 2 * j + 2 < n
      · have k2' : 2 * (j : Int) + 1 + 1 < (n : Int) := by omega
        obtain ⟨xr, hxr⟩ : ∃ x, fj (2 * j + 1 + 1) = x := ⟨_, rfl⟩
        have cr : wr.cell? ⟨g, 2 * j + 1 + 1, none⟩ = some (.int .i32 xr) := by rw [← hxr]; exact hAj.cell (by omega)
        have fr := hAj.free (2 * j + 1 + 1)
        have Hxr := hide hxr
        clear hxr
        by_cases t : xr < xl
        · have Hmin : Hid (∀ t, 0 < t → t < n → (t - 1) / 2 = j → fj (2 * j + 1 + 1) ≤ fj t) := by
            intro t h0 ht hp
            rcases (show t = 2 * j + 1 ∨ t = 2 * j + 1 + 1 by omega) with rfl | rfl
            · rw [unhide Hxr, unhide Hxl]; omega
            · exact Int.le_refl _
          go_wp2_with fail
          go_quiet (fail)
          go_wp2_with fail
          go_quiet (fail)
          by_cases q : xi ≤ xr
          · go_wp2
            go_ret
            exact ⟨rfl, PopPost.drewN (pop_end hne hHb hAj hF (down_done hD (fun t h0 ht hp => by have := unhide Hmin t h0 ht hp; rw [unhide Hxr] at this; rw [unhide Hxi]; omega)) hS) _⟩
          · go_wp2_with fail
            generalize hwq : wr.drewN _ = wq
            have ci' : wq.cell? ⟨g, j, none⟩ = some (.int .i32 xi) := by rw [← hwq]; exact ci
            have c2q : wq.cell? ⟨g, 2 * j + 1 + 1, none⟩ = some (.int .i32 xr) := by rw [← hwq]; exact cr
            have fi' : wq.frozen? ⟨g, j, none⟩ = false := by rw [← hwq]; exact fi
            have f2q : wq.frozen? ⟨g, 2 * j + 1 + 1, none⟩ = false := by rw [← hwq]; exact fr
            have HWQ : Hid (∃ k, wq = wr.drewN k) := ⟨_, hwq.symm⟩
            clear hwq
            go_region
            go_wp2
            go_roundw
            case measure => simp [intOf]; omega
            case rel =>
              obtain ⟨k, rfl⟩ := unhide HWQ
              exact ⟨2 * j + 1 + 1, swp fj j (2 * j + 1 + 1), by go_num, by omega, down_step hD (by omega) (by omega) (by omega) (unhide Hmin) (by rw [unhide Hxr, unhide Hxi]; omega), hS.trans (same_swp fj (by omega) (by omega)), swap_arr (hAj.drewN k) (by omega) (by omega) (unhide Hxi) (unhide Hxr), (((hF.drewN _).setCell (by simp) _).setCell (by simp) _).drew⟩
        · have Hmin : Hid (∀ t, 0 < t → t < n → (t - 1) / 2 = j → fj (2 * j + 1) ≤ fj t) := by
            intro t h0 ht hp
            rcases (show t = 2 * j + 1 ∨ t = 2 * j + 1 + 1 by omega) with rfl | rfl
            · exact Int.le_refl _
            · rw [unhide Hxr, unhide Hxl]; omega
          go_wp2_with fail
          go_quiet (fail)
          go_wp2_with fail
          go_quiet (fail)
          by_cases q : xi ≤ xl
          · go_wp2
            go_ret
            exact ⟨rfl, PopPost.drewN (pop_end hne hHb hAj hF (down_done hD (fun t h0 ht hp => by have := unhide Hmin t h0 ht hp; rw [unhide Hxl] at this; rw [unhide Hxi]; omega)) hS) _⟩
          · go_wp2_with fail
            generalize hwq : wr.drewN _ = wq
            have ci' : wq.cell? ⟨g, j, none⟩ = some (.int .i32 xi) := by rw [← hwq]; exact ci
            have c2q : wq.cell? ⟨g, 2 * j + 1, none⟩ = some (.int .i32 xl) := by rw [← hwq]; exact cl
            have fi' : wq.frozen? ⟨g, j, none⟩ = false := by rw [← hwq]; exact fi
            have f2q : wq.frozen? ⟨g, 2 * j + 1, none⟩ = false := by rw [← hwq]; exact fl
            have HWQ : Hid (∃ k, wq = wr.drewN k) := ⟨_, hwq.symm⟩
            clear hwq
            go_region
            go_wp2
            go_roundw
            case measure => simp [intOf]; omega
            case rel =>
              obtain ⟨k, rfl⟩ := unhide HWQ
              exact ⟨2 * j + 1, swp fj j (2 * j + 1), by go_num, by omega, down_step hD (by omega) (by omega) (by omega) (unhide Hmin) (by rw [unhide Hxl, unhide Hxi]; omega), hS.trans (same_swp fj (by omega) (by omega)), swap_arr (hAj.drewN k) (by omega) (by omega) (unhide Hxi) (unhide Hxl), (((hF.drewN _).setCell (by simp) _).setCell (by simp) _).drew⟩
      · have k2' : decide (2 * (j : Int) + 1 + 1 < (n : Int)) = false := decide_eq_false (by omega)
        have Hmin : Hid (∀ t, 0 < t → t < n → (t - 1) / 2 = j → fj (2 * j + 1) ≤ fj t) := by
          intro t h0 ht hp
          have : t = 2 * j + 1 := by omega
          subst this; exact Int.le_refl _
        go_wp2_with fail
        go_quiet (fail)
        go_wp2_with fail
        go_quiet (fail)
        by_cases q : xi ≤ xl
        · go_wp2
          go_ret
          exact ⟨rfl, PopPost.drewN (pop_end hne hHb hAj hF (down_done hD (fun t h0 ht hp => by have := unhide Hmin t h0 ht hp; rw [unhide Hxl] at this; rw [unhide Hxi]; omega)) hS) _⟩
        · go_wp2_with fail
          generalize hwq : wr.drewN _ = wq
          have ci' : wq.cell? ⟨g, j, none⟩ = some (.int .i32 xi) := by rw [← hwq]; exact ci
          have c2q : wq.cell? ⟨g, 2 * j + 1, none⟩ = some (.int .i32 xl) := by rw [← hwq]; exact cl
          have fi' : wq.frozen? ⟨g, j, none⟩ = false := by rw [← hwq]; exact fi
          have f2q : wq.frozen? ⟨g, 2 * j + 1, none⟩ = false := by rw [← hwq]; exact fl
          have HWQ : Hid (∃ k, wq = wr.drewN k) := ⟨_, hwq.symm⟩
          clear hwq
          go_region
          go_wp2
          go_roundw
          case measure => simp [intOf]; omega
          case rel =>
            obtain ⟨k, rfl⟩ := unhide HWQ
            exact ⟨2 * j + 1, swp fj j (2 * j + 1), by go_num, by omega, down_step hD (by omega) (by omega) (by omega) (unhide Hmin) (by rw [unhide Hxl, unhide Hxi]; omega), hS.trans (same_swp fj (by omega) (by omega)), swap_arr (hAj.drewN k) (by omega) (by omega) (unhide Hxi) (unhide Hxl), (((hF.drewN _).setCell (by simp) _).setCell (by simp) _).drew⟩
    · have k1' : (n : Int) ≤ 2 * (j : Int) + 1 := by omega
      go_wp2
      go_ret
      exact ⟨rfl, pop_end hne hHb hAj hF (down_done hD (fun t h0 ht hp => by omega)) hS⟩
end Go.Proofs.Qxb6612831a
