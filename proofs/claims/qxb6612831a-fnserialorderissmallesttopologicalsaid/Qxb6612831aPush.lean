import Derived.Test.Qxb6612831aPop
namespace Go.Proofs.Qxb6612831a
open Go.RowKit

theorem info21 : (Try.prog.info? 21).map (fun i => (i.zero, i.size, i.bytes)) = some (some (.int .i32 0), 1, 4) := by kernel_rfl

def putn (f : Nat → Int) (n : Nat) (x : Int) : Nat → Int := fun i => if i = n then x else f i

structure PushPost (hb n : Nat) (f : Nat → Int) (x : Int) (v : Value) (w w' : World) (g' cap' : Nat) (f' : Nat → Int) : Prop where
  var : Arr w' hb 54 1 1 (fun _ => .slice (some ⟨g', 0, none⟩) (n + 1) cap')
  arr : Arr w' g' 21 (n + 1) cap' (V32 f')
  heap : IsHeap f' (n + 1)
  same : Same (putn f n x) f' (n + 1)
  fr : Fr (hb :: v.ownBlock.toList) w w'
  ne : g' ≠ hb
  wh : v.ownBlock = some g' ∨ w.heap.size ≤ g'

theorem Vec.alloc {w : World} {v : Value} {ty : TypeId} {n : Nat} {f : Nat → Value} (h : Vec w v ty n f) (o : Obj) : Vec (w.alloc o) v ty n f :=
  h.kept (S := []) ((Fr.refl _ _).alloc o) (by simp)

theorem push_end {hb n g' cap' : Nat} {f fj : Nat → Int} {x : Int} {v : Value} {w w1 wr : World} (hne : g' ≠ hb)
    (hH : Arr (w1.setCell ⟨hb, 0, none⟩ (.slice (some ⟨g', 0, none⟩) (n + 1) cap')) hb 54 1 1 (fun _ => .slice (some ⟨g', 0, none⟩) (n + 1) cap'))
    (hF1 : Fr (hb :: v.ownBlock.toList) w w1) (hwh : v.ownBlock = some g' ∨ w.heap.size ≤ g')
    (hF : Fr [g'] (w1.setCell ⟨hb, 0, none⟩ (.slice (some ⟨g', 0, none⟩) (n + 1) cap')) wr) (hA : Arr wr g' 21 (n + 1) cap' (V32 fj)) (hh : IsHeap fj (n + 1)) (hS : Same (putn f n x) fj (n + 1)) :
    PushPost hb n f x v w wr g' cap' fj :=
  ⟨hH.kept hF (by simpa using fun e => hne e.symm), hA, hh, hS, (hF1.setCell (by simp) _).trans hF (by
    intro i hi
    simp at hi; subst hi
    rcases hwh with h | h
    · rw [h]; simp
    · exact .inr h), hne, hwh⟩

set_option maxHeartbeats 4000000 in
set_option maxRecDepth 100000 in
theorem push24 (hb n : Nat) (f : Nat → Int) (x : Int) (v : Value) (w : World) (hn : n ≤ 1000000)
    (hH : Arr w hb 54 1 1 (fun _ => v)) (hV : Vec w v 21 n (V32 f)) (hne : v.ownBlock ≠ some hb) (hh : IsHeap f n) :
    Calls Try.prog 24 #[.pointer (some ⟨hb, 0, none⟩), .int .i32 x] w fun e w' => e = .returned (.tuple #[]) ∧ ∃ g' cap' f', PushPost hb n f x v w w' g' cap' f' := by
  have hlt := hH.lt
  have c0 := hH.cell (i := 0) (by omega)
  have z0 := hH.free 0
  have hU := hide (push_up hh (putn f n x) (fun j hj => by simp [putn]; omega))
  go_enter Try.func24, Try.ntmps24
  go_wp2_with (at_builtin; refine wpList_app1 _ rfl _ _ 54 rfl 21 (.int .i32 0) 4 Try.underlying54 info21 rfl n (V32 f) v rfl (hV.alloc _) ⟨w.heap.size, 0, none⟩ (.int .i32 x) rfl (by simp) rfl rfl (by unfold maxLen; omega) (by omega) ?_; intro g' cap' w1 hA1 hF1 hwh; have hHb1 : Arr w1 hb 54 1 1 (fun _ => v) := (hH.alloc _).kept hF1 (by intro hm; simp at hm; exact hne hm); have e0 := hHb1.cell (i := 0) (by omega); have e1 := hHb1.free 0)
  have hlt' : w.heap.size < (w.alloc (.cells #[.int .i32 x] 21)).heap.size := by simp
  have hneg : g' ≠ hb := by
    rcases hwh with h | h
    · intro e; rw [e] at h; exact hne h
    · omega
  have hF1' : Fr (hb :: v.ownBlock.toList) w w1 := (((Fr.refl (v.ownBlock.toList) w).alloc _).trans' hF1).mono (by simp; intros; simp [*])
  have hwh' : v.ownBlock = some g' ∨ w.heap.size ≤ g' := by
    rcases hwh with h | h
    · exact .inl h
    · exact .inr (by omega)
  have hH1 : Arr (w1.setCell ⟨hb, 0, none⟩ (.slice (some ⟨g', 0, none⟩) (n + 1) cap')) hb 54 1 1 (fun _ => .slice (some ⟨g', 0, none⟩) (n + 1) cap') :=
    (hHb1.set (i := 0) (by omega) _).congr (fun i hi => by have : i = 0 := by omega
                                                           subst this; simp [upd])
  have hA2 : Arr (w1.setCell ⟨hb, 0, none⟩ (.slice (some ⟨g', 0, none⟩) (n + 1) cap')) g' 21 (n + 1) cap' (V32 (putn f n x)) := by
    rw [V32_upd] at hA1; exact hA1.setAny (fun e => hneg e.symm) _
  clear hH hV hne c0 z0 hA1 hF1 hwh hHb1 e0 e1 hlt' hh
  generalize hW1 : w1.setCell ⟨hb, 0, none⟩ (.slice (some ⟨g', 0, none⟩) (n + 1) cap') = W1 at hA2 ⊢
  go_loopw [5] (fun i wr => ∃ (j : Nat) (fj : Nat → Int), i = .int .i64 j ∧ j ≤ n ∧ UpAt fj (n + 1) j ∧ Same (putn f n x) fj (n + 1) ∧ Arr wr g' 21 (n + 1) cap' (V32 fj) ∧ Fr [g'] W1 wr) (fun i _ => (intOf i).toNat)
  case atStart => exact ⟨n, _, rfl, Nat.le_refl _, unhide hU, Same.refl _ _, hA2, Fr.refl _ _⟩
  case round =>
    obtain ⟨j, fj, rfl, hjn, hD, hS, hAj, hF⟩ := hrel
    subst hW1
    clear hU hA2
    by_cases k0 : 0 < j
    · have e1 : (((j : Int) - 1) / 2).toNat = (j - 1) / 2 := by omega
      have p1 : (0 : Int) ≤ ((j : Int) - 1) / 2 := by omega
      have p2 : ((j : Int) - 1) / 2 < (n : Int) + 1 := by omega
      have p3 : (j : Int) < (n : Int) + 1 := by omega
      obtain ⟨xi, hxi⟩ : ∃ x, fj j = x := ⟨_, rfl⟩
      have ci : wr.cell? ⟨g', j, none⟩ = some (.int .i32 xi) := by rw [← hxi]; exact hAj.cell (by omega)
      have fi := hAj.free j
      obtain ⟨xl, hxl⟩ : ∃ x, fj ((j - 1) / 2) = x := ⟨_, rfl⟩
      have cl : wr.cell? ⟨g', (j - 1) / 2, none⟩ = some (.int .i32 xl) := by rw [← hxl]; exact hAj.cell (by omega)
      have fl := hAj.free ((j - 1) / 2)
      have Hxi := hide hxi
      have Hxl := hide hxl
      clear hxi hxl
      go_wp2_with fail
      go_quiet (fail)
      by_cases q : xl ≤ xi
      · go_wp2
        go_end0
        exact ⟨rfl, g', cap', fj, push_end hneg hH1 hF1' hwh' (hF.drewN _) (hAj.drewN _) (up_done hD (.inr (by rw [unhide Hxi, unhide Hxl]; exact q))) hS⟩
      · go_wp2_with fail
        generalize hwq : wr.drewN _ = wq
        have ci' : wq.cell? ⟨g', j, none⟩ = some (.int .i32 xi) := by rw [← hwq]; exact ci
        have c2q : wq.cell? ⟨g', (j - 1) / 2, none⟩ = some (.int .i32 xl) := by rw [← hwq]; exact cl
        have fi' : wq.frozen? ⟨g', j, none⟩ = false := by rw [← hwq]; exact fi
        have f2q : wq.frozen? ⟨g', (j - 1) / 2, none⟩ = false := by rw [← hwq]; exact fl
        have HWQ : Hid (∃ k, wq = wr.drewN k) := ⟨_, hwq.symm⟩
        clear hwq
        go_region
        go_wp2
        go_roundw
        case measure => simp [intOf]; omega
        case rel =>
          obtain ⟨k, rfl⟩ := unhide HWQ
          exact ⟨(j - 1) / 2, swp fj ((j - 1) / 2) j, by go_num, by omega, up_step hD k0 (by omega) (by rw [unhide Hxi, unhide Hxl]; omega), hS.trans (same_swp fj (by omega) (by omega)), swap_arr (hAj.drewN k) (by omega) (by omega) (unhide Hxl) (unhide Hxi), (((hF.drewN _).setCell (by simp) _).setCell (by simp) _).drew⟩
    · have k0' : j = 0 := by omega
      subst k0'
      go_wp2
      go_end0
      exact ⟨rfl, g', cap', fj, push_end hneg hH1 hF1' hwh' hF hAj (up_done hD (.inl rfl)) hS⟩
end Go.Proofs.Qxb6612831a
