import Derived.Test.Qxb6612831aClone
namespace Go.Proofs.Qxb6612831a
open Go.RowKit
set_option linter.unusedVariables false

/-- A Graph at block gb: its three slices. -/
structure GraphAt (w : World) (gb : Nat) (a0 : Option Addr) (n c0 : Nat) (a1 : Option Addr) (n1 c1 : Nat) (a2 : Option Addr) (n2 c2 : Nat) : Prop where
  txns : w.cell? ⟨gb, 0, none⟩ = some (.slice a0 n c0)
  start : w.cell? ⟨gb, 1, none⟩ = some (.slice a1 n1 c1)
  succ : w.cell? ⟨gb, 2, none⟩ = some (.slice a2 n2 c2)

theorem GraphAt.kept {w w' : World} {gb : Nat} {a0 : Option Addr} {n c0 : Nat} {a1 : Option Addr} {n1 c1 : Nat} {a2 : Option Addr} {n2 c2 : Nat} (h : GraphAt w gb a0 n c0 a1 n1 c1 a2 n2 c2) {B : Nat} (hB : Below B w w') (hb : gb < B) : GraphAt w' gb a0 n c0 a1 n1 c1 a2 n2 c2 :=
  ⟨(hB.cell (p := ⟨gb, 0, none⟩) hb).trans h.txns, (hB.cell (p := ⟨gb, 1, none⟩) hb).trans h.start, (hB.cell (p := ⟨gb, 2, none⟩) hb).trans h.succ⟩

set_option maxHeartbeats 1000000 in
theorem newGraph16 (a : Option Addr) (n cap : Nat) (z : Nat → Int) (a1 : Option Addr) (n1 c1 : Nat) (a2 : Option Addr) (n2 c2 : Nat) (w : World) (hn : n ≤ 1000000) (hS : Sl w a n cap (fun i => .int .u64 (z i))) :
    Calls Try.prog 16 #[.slice a n cap, .slice a1 n1 c1, .slice a2 n2 c2] w fun e w' => ∃ gb a' cap', e = .returned (.pointer (some ⟨gb, 0, none⟩)) ∧ GraphAt w' gb a' n cap' a1 n1 c1 a2 n2 c2 ∧ Vec w' (.slice a' n cap') 43 n (fun i => .int .u64 (z i)) ∧ Below w.heap.size w w' ∧ w.heap.size ≤ gb := by
  have hmk := fun wx => run_make_row' (P := Try.prog) 37 43 (.int .u64 0) 8 Try.underlying37 info43 rfl .i64 .i64 n (by omega) (by omega) wx
  go_enter Try.func16, Try.ntmps16
  go_wp2
  clear hmk
  generalize hW1 : w.alloc (.cells (madeCells #[.int .u64 0] n) 43) = W1
  have hA : Arr W1 w.heap.size 43 n n (fun i => if i < 0 then .int .u64 (z i) else .int .u64 0) := by
    rw [← hW1]; exact (Arr.ofAlloc (by unfold maxLen; omega)).congr (fun i _ => by simp)
  have hB : Below w.heap.size w W1 := by rw [← hW1]; exact (Below.refl _ _).alloc (Nat.le_refl _) _
  clear hW1
  go_loopw [8] (fun i wr => ∃ k : Nat, k ≤ n ∧ i = .int .i64 k ∧ Arr wr w.heap.size 43 n n (fun i => if i < k then .int .u64 (z i) else .int .u64 0) ∧ Below w.heap.size w wr) (fun i _ => n - (intOf i).toNat)
  case atStart => exact ⟨0, Nat.zero_le _, rfl, hA, hB⟩
  case round =>
    obtain ⟨k, hk, rfl, hAk, hBk⟩ := hrel
    clear hA hB
    by_cases hlt : k < n
    · obtain ⟨b, off, rfl, hc⟩ := hS.2.2.2 (by omega)
      have hlb := cell_lt (hc k hlt)
      have hck : wr.cell? ⟨b, off + k, none⟩ = some (.int .u64 (z k)) := (hBk.cell (p := ⟨b, off + k, none⟩) (by exact hlb)).trans (hc k hlt)
      have hdk := hAk.cell hlt
      have hfk := hAk.free k
      clear hc
      go_wp2
      go_roundw
      case measure => simp [intOf]; omega
      case rel =>
        refine ⟨k + 1, by omega, by go_num, ?_, hBk.setCell (Nat.le_refl _) _⟩
        rw [upd_in (fun i => .int .u64 (z i)) _ k]
        exact hAk.set hlt _
    · have hkn : k = n := by omega
      subst hkn
      go_wp2
      go_ret
      refine ⟨wr.heap.size, _, _, rfl, ⟨by simp, by simp, by simp⟩, .inr ⟨_, _, rfl, (hAk.alloc _).congr (fun i hi => by simp [hi])⟩, hBk.alloc (by have := hBk.size; omega) _, hBk.size⟩

/-- what 'successors' hands back: nothing is read where it is empty. -/
def SuccPost (g2 x y : Nat) (w : World) (e : Ending) (w' : World) : Prop := ∃ a' cap' k, e = .returned (.slice a' (y - x) cap') ∧ (x < y → a' = some ⟨g2, x, none⟩) ∧ w' = w.drewN k

set_option maxHeartbeats 1000000 in
theorem succ23 (gb v n n2 cap2 g1 g2 c1 : Nat) (a0 : Option Addr) (n0 c0 : Nat) (x y : Nat) (w : World) (hv : v < n) (hn : n ≤ 1000000) (hn2 : n2 ≤ 1000000)
    (hG : GraphAt w gb a0 n0 c0 (some ⟨g1, 0, none⟩) (n + 1) c1 (some ⟨g2, 0, none⟩) n2 cap2)
    (hx : w.cell? ⟨g1, v, none⟩ = some (.int .i64 x)) (hy : w.cell? ⟨g1, v + 1, none⟩ = some (.int .i64 y)) (hxy : x ≤ y) (hyn : y ≤ n2) (hc : n2 ≤ cap2) (hc' : cap2 ≤ maxLen) :
    Calls Try.prog 23 #[.pointer (some ⟨gb, 0, none⟩), .int .i32 v] w fun e w' => SuccPost g2 x y w e w' := by
  have h1 := hG.txns
  have h2 := hG.start
  have h3 := hG.succ
  have b1 : (v : Int) < (n : Int) + 1 := by omega
  have b2 : (v : Int) + 1 < (n : Int) + 1 := by omega
  have b3 : (x : Int) ≤ y := by omega
  have b4 : (y : Int) ≤ n2 := by omega
  have b5 : (y : Int) ≤ cap2 := by omega
  unfold maxLen at hc'
  go_enter Try.func23, Try.ntmps23
  go_wp2_with fail
  go_quiet (fail)
  go_wp2
  · go_ret
    exact ⟨_, _, _, rfl, fun h => by omega, rfl⟩
  · go_ret
    exact ⟨_, _, _, rfl, fun h => rfl, rfl⟩

set_option maxHeartbeats 1000000 in
theorem succ23n (gb v n g1 c1 : Nat) (a0 : Option Addr) (n0 c0 : Nat) (w : World) (hv : v < n) (hn : n ≤ 1000000)
    (hG : GraphAt w gb a0 n0 c0 (some ⟨g1, 0, none⟩) (n + 1) c1 none 0 0)
    (hx : w.cell? ⟨g1, v, none⟩ = some (.int .i64 0)) (hy : w.cell? ⟨g1, v + 1, none⟩ = some (.int .i64 0)) :
    Calls Try.prog 23 #[.pointer (some ⟨gb, 0, none⟩), .int .i32 v] w fun e w' => SuccPost 0 0 0 w e w' := by
  have h1 := hG.txns
  have h2 := hG.start
  have h3 := hG.succ
  have b1 : (v : Int) < (n : Int) + 1 := by omega
  have b2 : (v : Int) + 1 < (n : Int) + 1 := by omega
  go_enter Try.func23, Try.ntmps23
  go_wp2_with fail
  go_quiet (fail)
  go_wp2
  go_ret
  exact ⟨_, _, _, rfl, fun h => by omega, rfl⟩
end Go.Proofs.Qxb6612831a
