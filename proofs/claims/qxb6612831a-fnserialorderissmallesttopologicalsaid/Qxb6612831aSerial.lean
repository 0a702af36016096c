import Derived.Test.Qxb6612831aSmall
namespace Go.Proofs.Qxb6612831a
open Go.RowKit
set_option linter.unusedVariables false

/-- What SerialOrder hands back. -/
def SerPost (n : Nat) (S U : Nat → Nat) (z : Nat → Int) (w : World) (e : Ending) (w' : World) : Prop :=
  ∃ ord, Ok n S U ord ∧ (∀ x, ¬ Ready n S U ord x) ∧ Below w.heap.size w w' ∧
    ((ord.length < n ∧ e = .returned (.tuple #[.slice none 0 0, .bool false])) ∨
     (ord.length = n ∧ ∃ ob, e = .returned (.tuple #[.slice (some ⟨ob, 0, none⟩) n n, .bool true]) ∧ Arr w' ob 43 n n (fun i => .int .u64 (z (ord.getD i 0)))))

set_option maxHeartbeats 4000000 in
theorem serial17 (gb : Nat) (a0 : Option Addr) (n c0 g1 c1 : Nat) (a2 : Option Addr) (m c2 : Nat) (S U : Nat → Nat) (z : Nat → Int) (w : World) (hG : InG w gb a0 n c0 g1 c1 a2 m c2 S U) (hT : Sl w a0 n c0 (fun i => .int .u64 (z i))) :
    Calls Try.prog 17 #[.pointer (some ⟨gb, 0, none⟩)] w fun e w' => SerPost n S U z w e w' := by
  have hn := hG.hn
  have q1 := hG.at_.txns
  have hgb := cell_lt q1
  have hmk := fun wx => run_make_row' (P := Try.prog) 37 43 (.int .u64 0) 8 Try.underlying37 info43 rfl .i64 .i64 n (by omega) (by omega) wx
  go_enter Try.func17, Try.ntmps17
  go_wp2_with fail
  refine (small20 gb a0 n c0 g1 c1 a2 m c2 S U _ hG).mono ?_
  rintro e w1 ⟨ord, hok, hend, hB, hor⟩
  rcases hor with ⟨hl, rfl⟩ | ⟨hl, ob, oc, rfl, hA, hob⟩
  · go_wp2
    go_ret2
    exact ⟨ord, hok, hend, hB, .inl ⟨hl, rfl⟩⟩
  · go_wp2
    clear hmk
    generalize hW1 : w1.alloc (.cells (madeCells #[.int .u64 0] n) 43) = W1
    have hAn : Arr W1 w1.heap.size 43 n n (fun i => if i < 0 then .int .u64 (z (ord.getD i 0)) else .int .u64 0) := by
      rw [← hW1]; exact (Arr.ofAlloc (by unfold maxLen; omega)).congr (fun i _ => by simp)
    have hB1 : Below w1.heap.size w1 W1 := by rw [← hW1]; exact (Below.refl _ _).alloc (Nat.le_refl _) _
    clear hW1
    go_loopw [21] (fun i wr => ∃ k : Nat, k ≤ n ∧ i = .int .i64 k ∧ Arr wr w1.heap.size 43 n n (fun i => if i < k then .int .u64 (z (ord.getD i 0)) else .int .u64 0) ∧ Below w1.heap.size w1 wr) (fun i _ => n - (intOf i).toNat)
    case atStart => exact ⟨0, Nat.zero_le _, rfl, hAn, hB1⟩
    case round =>
      obtain ⟨k, hk, rfl, hAk, hBk⟩ := hrel
      clear hAn hB1
      have hBB : Below w.heap.size w wr := hB.trans (hBk.mono hB.size)
      by_cases hlt : k < n
      · obtain ⟨b, off, rfl, hc⟩ := hT.2.2.2 (by omega)
        have hu : ord.getD k 0 < n := by
          have : k < ord.length := by omega
          rw [List.getD_eq_getElem?_getD, List.getElem?_eq_getElem this]
          exact hok.lt _ (List.getElem_mem this)
        have r2 : wr.cell? ⟨gb, 0, none⟩ = some (.slice (some ⟨b, off, none⟩) n c0) := (hBB.cell (p := ⟨gb, 0, none⟩) hgb).trans q1
        have hck : wr.cell? ⟨ob, k, none⟩ = some (Ord32 ord k) := (hBk.cell (p := ⟨ob, k, none⟩) (by exact hA.lt)).trans (hA.cell hlt)
        unfold Ord32 at hck
        have hck2 : wr.cell? ⟨b, off + ord.getD k 0, none⟩ = some (.int .u64 (z (ord.getD k 0))) := (hBB.cell (p := ⟨b, off + ord.getD k 0, none⟩) (cell_lt (hc _ hu))).trans (hc _ hu)
        obtain ⟨u, hu'⟩ : ∃ u, ord.getD k 0 = u := ⟨_, rfl⟩
        rw [hu'] at hu hck hck2
        have hdk := hAk.cell hlt
        have hfk := hAk.free k
        have HU := hide hu'
        clear hc hu'
        go_wp2
        go_roundw
        case measure => simp [intOf]; omega
        case rel =>
          refine ⟨k + 1, by omega, by go_num, ?_, hBk.setCell (Nat.le_refl _) _⟩
          rw [upd_in (fun i => .int .u64 (z (ord.getD i 0))) _ k, unhide HU]
          exact hAk.set hlt _
      · have hkn : n = k := by omega
        subst hkn
        go_wp2
        go_ret2
        exact ⟨ord, hok, hend, hBB, .inr ⟨hl, _, rfl, hAk.congr (fun i hi => by simp [hi])⟩⟩
end Go.Proofs.Qxb6612831a
