import Derived.Test.Qxb6612831aPush
import Derived.Lib.SliceRun
import Derived.Deep.OwnRows
namespace Go.Proofs.Qxb6612831a
open Go.RowKit

theorem info42 : (Try.prog.info? 42).map (fun i => (i.zero, i.size, i.bytes)) = some (some (.int .u64 0), 1, 8) := by kernel_rfl
theorem info43 : (Try.prog.info? 43).map (fun i => (i.zero, i.size, i.bytes)) = some (some (.int .u64 0), 1, 8) := by kernel_rfl
theorem info3 : (Try.prog.info? 3).map (fun i => (i.zero, i.size, i.bytes)) = some (some (.int .i64 0), 1, 8) := by kernel_rfl
theorem info4 : (Try.prog.info? 4).map (fun i => (i.zero, i.size, i.bytes)) = some (some (.bool false), 1, 1) := by kernel_rfl

/-- A slice that is read: nil where its address is; where it has an element, its cells. -/
def Sl (w : World) (a : Option Addr) (n cap : Nat) (f : Nat → Value) : Prop :=
  n ≤ cap ∧ cap ≤ maxLen ∧ (a = none → n = 0 ∧ cap = 0) ∧ (0 < n → ∃ b off, a = some ⟨b, off, none⟩ ∧ ∀ i, i < n → w.cell? ⟨b, off + i, none⟩ = some (f i))

theorem Sl.kept {w w' : World} {a : Option Addr} {n cap : Nat} {f : Nat → Value} (h : Sl w a n cap f) (hF : Below w.heap.size w w') : Sl w' a n cap f := by
  refine ⟨h.1, h.2.1, h.2.2.1, fun hn => ?_⟩
  obtain ⟨b, off, rfl, hc⟩ := h.2.2.2 hn
  refine ⟨b, off, rfl, fun i hi => ?_⟩
  rw [hF.cell (p := ⟨b, off + i, none⟩) (cell_lt (hc i hi))]
  exact hc i hi

theorem Sl.kept' {B : Nat} {w w' : World} {a : Option Addr} {n cap : Nat} {f : Nat → Value} (h : Sl w a n cap f) (hF : Below B w w') (hB : ∀ x, a = some x → x.block < B) : Sl w' a n cap f := by
  refine ⟨h.1, h.2.1, h.2.2.1, fun hn => ?_⟩
  obtain ⟨b, off, rfl, hc⟩ := h.2.2.2 hn
  refine ⟨b, off, rfl, fun i hi => ?_⟩
  rw [hF.cell (p := ⟨b, off + i, none⟩) (hB ⟨b, off, none⟩ rfl)]
  exact hc i hi

theorem Vec.sl {w : World} {a : Option Addr} {n cap : Nat} {ty : TypeId} {f : Nat → Value} (h : Vec w (.slice a n cap) ty n f) : Sl w a n cap f := by
  rcases h with ⟨h, rfl⟩ | ⟨g, c, h, hA⟩
  · simp only [Value.slice.injEq] at h
    obtain ⟨rfl, _, rfl⟩ := h
    exact ⟨Nat.le_refl _, Nat.zero_le _, fun _ => ⟨rfl, rfl⟩, fun h => by omega⟩
  · simp only [Value.slice.injEq, true_and] at h
    obtain ⟨rfl, rfl⟩ := h
    exact ⟨hA.le, hA.capLe, fun h => (by cases h), fun _ => ⟨g, 0, rfl, fun i hi => by rw [Nat.zero_add]; exact hA.cell hi⟩⟩

theorem upd_in (f : Nat → Value) (z : Value) (k : Nat) : (fun i => if i < k + 1 then f i else z) = upd (fun i => if i < k then f i else z) k (f k) := by
  funext i
  unfold upd
  by_cases h : i = k
  · subst h; simp
  · by_cases h2 : i < k
    · simp [h, h2, Nat.lt_succ_of_lt h2]
    · have : ¬ i < k + 1 := by omega
      simp [h, h2, this]

set_option maxHeartbeats 1000000 in
theorem clone14 (a : Option Addr) (n cap : Nat) (z : Nat → Int) (w : World) (hn : n ≤ 1000000) (hS : Sl w a n cap (fun i => .int .u64 (z i))) :
    Calls Try.prog 14 #[.slice a n cap] w fun e w' => ∃ a' cap', e = .returned (.slice a' n cap') ∧ Vec w' (.slice a' n cap') 42 n (fun i => .int .u64 (z i)) ∧ Below w.heap.size w w' ∧ ∀ x, a' = some x → w.heap.size ≤ x.block := by
  have heq := fun wx => Lib.run_eql_slice_nil (P := Try.prog) wx 30 42 a n cap 0 0 Try.underlying30
  cases a with
  | none =>
    obtain ⟨rfl, rfl⟩ := hS.2.2.1 rfl
    go_enter Try.func14, Try.ntmps14
    go_wp2
    go_ret
    exact ⟨none, 0, rfl, .inl ⟨rfl, rfl⟩, Below.refl _ _, fun x hx => by cases hx⟩
  | some ad =>
    have hmk := fun wx => run_make_row' (P := Try.prog) 30 42 (.int .u64 0) 8 Try.underlying30 info42 rfl .i64 .i64 n (by omega) (by omega) wx
    go_enter Try.func14, Try.ntmps14
    go_wp2
    clear heq hmk
    generalize hW1 : w.alloc (.cells (madeCells #[.int .u64 0] n) 42) = W1
    have hA : Arr W1 w.heap.size 42 n n (fun i => if i < 0 then .int .u64 (z i) else .int .u64 0) := by
      rw [← hW1]; exact (Arr.ofAlloc (by unfold maxLen; omega)).congr (fun i _ => by simp)
    have hB : Below w.heap.size w W1 := by rw [← hW1]; exact (Below.refl _ _).alloc (Nat.le_refl _) _
    clear hW1
    go_loopw [4] (fun i wr => ∃ k : Nat, k ≤ n ∧ i = .int .i64 k ∧ Arr wr w.heap.size 42 n n (fun i => if i < k then .int .u64 (z i) else .int .u64 0) ∧ Below w.heap.size w wr) (fun i _ => n - (intOf i).toNat)
    case atStart => exact ⟨0, Nat.zero_le _, rfl, hA, hB⟩
    case round =>
      obtain ⟨k, hk, rfl, hAk, hBk⟩ := hrel
      clear hA hB
      by_cases hlt : k < n
      · obtain ⟨b, off, hab, hc⟩ := hS.2.2.2 (by omega)
        simp only [Option.some.injEq] at hab
        subst hab
        have hlb := cell_lt (hc k hlt)
        have hck : wr.cell? ⟨b, off + k, none⟩ = some (.int .u64 (z k)) := (hBk.cell (p := ⟨b, off + k, none⟩) (by exact hlb)).trans (hc k hlt)
        have hdk := hAk.cell hlt
        have hfk := hAk.free k
        clear hc
        go_wp2
        go_roundw
        case measure => simp [intOf]; omega
        case rel =>
          refine ⟨k + 1, by omega, by go_num, ?_, hBk.setCell (Nat.le_refl _) _⟩
          rw [upd_in (fun i => .int .u64 (z i)) _ k]
          exact hAk.set hlt _
      · have hkn : k = n := by omega
        subst hkn
        go_wp2
        go_ret
        exact ⟨_, _, rfl, .inr ⟨_, _, rfl, hAk.congr (fun i hi => by simp [hi])⟩, hBk, fun x hx => by simp at hx; subst hx; exact Nat.le_refl _⟩

set_option maxHeartbeats 1000000 in
theorem clone15 (a : Option Addr) (n cap : Nat) (z : Nat → Int) (w : World) (hn : n ≤ 1000000) (hS : Sl w a n cap (fun i => .int .i64 (z i))) :
    Calls Try.prog 15 #[.slice a n cap] w fun e w' => ∃ a' cap', e = .returned (.slice a' n cap') ∧ Vec w' (.slice a' n cap') 3 n (fun i => .int .i64 (z i)) ∧ Below w.heap.size w w' ∧ ∀ x, a' = some x → w.heap.size ≤ x.block := by
  have heq := fun wx => Lib.run_eql_slice_nil (P := Try.prog) wx 31 3 a n cap 0 0 Try.underlying31
  cases a with
  | none =>
    obtain ⟨rfl, rfl⟩ := hS.2.2.1 rfl
    go_enter Try.func15, Try.ntmps15
    go_wp2
    go_ret
    exact ⟨none, 0, rfl, .inl ⟨rfl, rfl⟩, Below.refl _ _, fun x hx => by cases hx⟩
  | some ad =>
    have hmk := fun wx => run_make_row' (P := Try.prog) 31 3 (.int .i64 0) 8 Try.underlying31 info3 rfl .i64 .i64 n (by omega) (by omega) wx
    go_enter Try.func15, Try.ntmps15
    go_wp2
    clear heq hmk
    generalize hW1 : w.alloc (.cells (madeCells #[.int .i64 0] n) 3) = W1
    have hA : Arr W1 w.heap.size 3 n n (fun i => if i < 0 then .int .i64 (z i) else .int .i64 0) := by
      rw [← hW1]; exact (Arr.ofAlloc (by unfold maxLen; omega)).congr (fun i _ => by simp)
    have hB : Below w.heap.size w W1 := by rw [← hW1]; exact (Below.refl _ _).alloc (Nat.le_refl _) _
    clear hW1
    go_loopw [4] (fun i wr => ∃ k : Nat, k ≤ n ∧ i = .int .i64 k ∧ Arr wr w.heap.size 3 n n (fun i => if i < k then .int .i64 (z i) else .int .i64 0) ∧ Below w.heap.size w wr) (fun i _ => n - (intOf i).toNat)
    case atStart => exact ⟨0, Nat.zero_le _, rfl, hA, hB⟩
    case round =>
      obtain ⟨k, hk, rfl, hAk, hBk⟩ := hrel
      clear hA hB
      by_cases hlt : k < n
      · obtain ⟨b, off, hab, hc⟩ := hS.2.2.2 (by omega)
        simp only [Option.some.injEq] at hab
        subst hab
        have hlb := cell_lt (hc k hlt)
        have hck : wr.cell? ⟨b, off + k, none⟩ = some (.int .i64 (z k)) := (hBk.cell (p := ⟨b, off + k, none⟩) (by exact hlb)).trans (hc k hlt)
        have hdk := hAk.cell hlt
        have hfk := hAk.free k
        clear hc
        go_wp2
        go_roundw
        case measure => simp [intOf]; omega
        case rel =>
          refine ⟨k + 1, by omega, by go_num, ?_, hBk.setCell (Nat.le_refl _) _⟩
          rw [upd_in (fun i => .int .i64 (z i)) _ k]
          exact hAk.set hlt _
      · have hkn : k = n := by omega
        subst hkn
        go_wp2
        go_ret
        exact ⟨_, _, rfl, .inr ⟨_, _, rfl, hAk.congr (fun i hi => by simp [hi])⟩, hBk, fun x hx => by simp at hx; subst hx; exact Nat.le_refl _⟩

set_option maxHeartbeats 1000000 in
theorem clone7 (a : Option Addr) (n cap : Nat) (z : Nat → Int) (w : World) (hn : n ≤ 1000000) (hS : Sl w a n cap (fun i => .int .i32 (z i))) :
    Calls Try.prog 7 #[.slice a n cap] w fun e w' => ∃ a' cap', e = .returned (.slice a' n cap') ∧ Vec w' (.slice a' n cap') 21 n (fun i => .int .i32 (z i)) ∧ Below w.heap.size w w' ∧ ∀ x, a' = some x → w.heap.size ≤ x.block := by
  have heq := fun wx => Lib.run_eql_slice_nil (P := Try.prog) wx 22 21 a n cap 0 0 Try.underlying22
  cases a with
  | none =>
    obtain ⟨rfl, rfl⟩ := hS.2.2.1 rfl
    go_enter Try.func7, Try.ntmps7
    go_wp2
    go_ret
    exact ⟨none, 0, rfl, .inl ⟨rfl, rfl⟩, Below.refl _ _, fun x hx => by cases hx⟩
  | some ad =>
    have hmk := fun wx => run_make_row' (P := Try.prog) 22 21 (.int .i32 0) 4 Try.underlying22 info21 rfl .i64 .i64 n (by omega) (by omega) wx
    go_enter Try.func7, Try.ntmps7
    go_wp2
    clear heq hmk
    generalize hW1 : w.alloc (.cells (madeCells #[.int .i32 0] n) 21) = W1
    have hA : Arr W1 w.heap.size 21 n n (fun i => if i < 0 then .int .i32 (z i) else .int .i32 0) := by
      rw [← hW1]; exact (Arr.ofAlloc (by unfold maxLen; omega)).congr (fun i _ => by simp)
    have hB : Below w.heap.size w W1 := by rw [← hW1]; exact (Below.refl _ _).alloc (Nat.le_refl _) _
    clear hW1
    go_loopw [4] (fun i wr => ∃ k : Nat, k ≤ n ∧ i = .int .i64 k ∧ Arr wr w.heap.size 21 n n (fun i => if i < k then .int .i32 (z i) else .int .i32 0) ∧ Below w.heap.size w wr) (fun i _ => n - (intOf i).toNat)
    case atStart => exact ⟨0, Nat.zero_le _, rfl, hA, hB⟩
    case round =>
      obtain ⟨k, hk, rfl, hAk, hBk⟩ := hrel
      clear hA hB
      by_cases hlt : k < n
      · obtain ⟨b, off, hab, hc⟩ := hS.2.2.2 (by omega)
        simp only [Option.some.injEq] at hab
        subst hab
        have hlb := cell_lt (hc k hlt)
        have hck : wr.cell? ⟨b, off + k, none⟩ = some (.int .i32 (z k)) := (hBk.cell (p := ⟨b, off + k, none⟩) (by exact hlb)).trans (hc k hlt)
        have hdk := hAk.cell hlt
        have hfk := hAk.free k
        clear hc
        go_wp2
        go_roundw
        case measure => simp [intOf]; omega
        case rel =>
          refine ⟨k + 1, by omega, by go_num, ?_, hBk.setCell (Nat.le_refl _) _⟩
          rw [upd_in (fun i => .int .i32 (z i)) _ k]
          exact hAk.set hlt _
      · have hkn : k = n := by omega
        subst hkn
        go_wp2
        go_ret
        exact ⟨_, _, rfl, .inr ⟨_, _, rfl, hAk.congr (fun i hi => by simp [hi])⟩, hBk, fun x hx => by simp at hx; subst hx; exact Nat.le_refl _⟩
end Go.Proofs.Qxb6612831a
