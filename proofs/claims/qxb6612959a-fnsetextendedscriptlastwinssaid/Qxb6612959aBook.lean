import Derived.Test.Qxb6612959aMap
namespace Go.Proofs.Qxb6612959a
open Go.RowKit Go.Maps
set_option linter.unusedVariables false

/-- The book at bb, its terms at tb, their open periods at ob; both hold x. -/
structure BSt (w wr : World) (ob tb bb : Nat) (eff od : Int) (x : Value) : Prop where
  b0 : wr.cell? ⟨bb, 0, none⟩ = some (.pointer (some ⟨tb, 0, none⟩))
  b4 : wr.cell? ⟨bb, 4, none⟩ = some x
  fb4 : wr.frozen? ⟨bb, 4, none⟩ = false
  t5 : wr.cell? ⟨tb, 5, none⟩ = some (.pointer (some ⟨ob, 0, none⟩))
  o0 : wr.cell? ⟨ob, 0, none⟩ = some (.int .i32 eff)
  o1 : wr.cell? ⟨ob, 1, none⟩ = some (.int .i64 od)
  o2 : wr.cell? ⟨ob, 2, none⟩ = some x
  fo2 : wr.frozen? ⟨ob, 2, none⟩ = false
  ne1 : bb ≠ ob
  ne2 : bb ≠ tb
  ne3 : tb ≠ ob
  g1 : w.heap.size ≤ bb
  g2 : w.heap.size ≤ ob
  bel : Below w.heap.size w wr

theorem BSt.drewN {w wr : World} {ob tb bb : Nat} {eff od : Int} {x : Value} (h : BSt w wr ob tb bb eff od x) (k : Nat) : BSt w (wr.drewN k) ob tb bb eff od x :=
  ⟨h.b0, h.b4, h.fb4, h.t5, h.o0, h.o1, h.o2, h.fo2, h.ne1, h.ne2, h.ne3, h.g1, h.g2, ⟨h.bel.os, h.bel.tape, h.bel.output, h.bel.size, h.bel.block⟩⟩

theorem addr_ne {a b : Nat} (h : a ≠ b) (i j : Nat) : (⟨a, i, none⟩ : Addr) ≠ ⟨b, j, none⟩ := fun e => h (congrArg Addr.block e)
theorem addr_ne' (a : Nat) {i j : Nat} (h : i ≠ j) : (⟨a, i, none⟩ : Addr) ≠ ⟨a, j, none⟩ := fun e => h (congrArg Addr.off e)

theorem BSt.set {w wr : World} {ob tb bb : Nat} {eff od : Int} {x : Value} (h : BSt w wr ob tb bb eff od x) (m : Value) :
    BSt w ((wr.setCell ⟨bb, 4, none⟩ m).setCell ⟨ob, 2, none⟩ m) ob tb bb eff od m := by
  have o : ∀ (b i : Nat) (v : Value), b ≠ ob ∨ i ≠ 2 → b ≠ bb ∨ i ≠ 4 → wr.cell? ⟨b, i, none⟩ = some v → ((wr.setCell ⟨bb, 4, none⟩ m).setCell ⟨ob, 2, none⟩ m).cell? ⟨b, i, none⟩ = some v := by
    intro b i v h1 h2 hc
    rw [World.cell?_setCell_other, World.cell?_setCell_other]
    · exact hc
    · intro e; simp at e; omega
    · intro e; simp at e; omega
  refine ⟨o _ _ _ (.inl h.ne1) (.inr (by omega)) h.b0, ?_, ?_, o _ _ _ (.inl h.ne3) (.inl (fun e => h.ne2 e.symm)) h.t5, o _ _ _ (.inr (by omega)) (.inr (by omega)) h.o0, o _ _ _ (.inr (by omega)) (.inr (by omega)) h.o1, ?_, ?_, h.ne1, h.ne2, h.ne3, h.g1, h.g2, (h.bel.setCell h.g1 _).setCell h.g2 _⟩
  · rw [World.cell?_setCell_other _ _ _ _ (addr_ne (fun e => h.ne1 e.symm) 2 4)]
    exact World.cell?_setCell_same _ _ _ h.b4
  · rw [World.frozen?_setCell, World.frozen?_setCell]; exact h.fb4
  · refine World.cell?_setCell_same _ _ _ (u := x) ?_
    rw [World.cell?_setCell_other _ _ _ _ (addr_ne h.ne1 4 2)]
    exact h.o2
  · rw [World.frozen?_setCell, World.frozen?_setCell]; exact h.fo2

def newCells (tb : Nat) (m : Value) : Array Value := #[.pointer (some ⟨tb, 0, none⟩), .string { data := #[] }, .int .i32 0, .bool false, m]

set_option maxHeartbeats 4000000 in
set_option maxRecDepth 1000000 in
theorem new4 (tb : Nat) (m : Option Nat) (w : World) :
    Calls Try.prog 4 #[.pointer (some ⟨tb, 0, none⟩), .map m] w fun e w' => e = .returned (.pointer (some ⟨w.heap.size, 0, none⟩)) ∧ w' = w.alloc (.cells (newCells tb (.map m)) 45) := by
  go_enter Try.func4, Try.ntmps4
  go_wp2
  go_ret
  exact ⟨rfl, rfl⟩

set_option maxHeartbeats 4000000 in
set_option maxRecDepth 1000000 in
theorem ext6 (bb : Nat) (v : Option Nat) (w : World) (h : w.cell? ⟨bb, 4, none⟩ = some (.map v)) :
    Calls Try.prog 6 #[.pointer (some ⟨bb, 0, none⟩)] w fun e w' => e = .returned (.map v) ∧ w' = w := by
  go_enter Try.func6, Try.ntmps6
  go_wp2
  go_ret
  exact ⟨rfl, rfl⟩

set_option maxHeartbeats 4000000 in
set_option maxRecDepth 1000000 in
theorem set8 (w wr : World) (ob tb bb : Nat) (eff od : Int) (x m : Option Nat) (h : BSt w wr ob tb bb eff od (.map x)) :
    Calls Try.prog 8 #[.pointer (some ⟨bb, 0, none⟩), .map m] wr fun e w' => e = .returned (.tuple #[]) ∧ w' = (wr.setCell ⟨bb, 4, none⟩ (.map m)).setCell ⟨ob, 2, none⟩ (.map m) := by
  have b0 := h.b0
  have b4 := h.b4
  have fb4 := h.fb4
  have t5 := h.t5
  have o2 := h.o2
  have fo2 := h.fo2
  have n1 := addr_ne h.ne1 4 2
  have n2 := addr_ne h.ne2 4 5
  have n3 := addr_ne' bb (show 4 ≠ 0 by decide)
  have c0 : (wr.setCell ⟨bb, 4, none⟩ (.map m)).cell? ⟨bb, 0, none⟩ = some (.pointer (some ⟨tb, 0, none⟩)) := by rw [World.cell?_setCell_other _ _ _ _ n3]; exact b0
  have c5 : (wr.setCell ⟨bb, 4, none⟩ (.map m)).cell? ⟨tb, 5, none⟩ = some (.pointer (some ⟨ob, 0, none⟩)) := by rw [World.cell?_setCell_other _ _ _ _ n2]; exact t5
  have c2 : (wr.setCell ⟨bb, 4, none⟩ (.map m)).cell? ⟨ob, 2, none⟩ = some (.map x) := by rw [World.cell?_setCell_other _ _ _ _ n1]; exact o2
  clear n1 n2 n3
  go_enter Try.func8, Try.ntmps8
  go_wp2
  go_end0
  exact ⟨rfl, rfl⟩

set_option maxHeartbeats 4000000 in
set_option maxRecDepth 1000000 in
theorem set7 (w wr : World) (ob tb bb : Nat) (eff od : Int) (x m : Option Nat) (h : BSt w wr ob tb bb eff od (.map x)) :
    Calls Try.prog 7 #[.pointer (some ⟨bb, 0, none⟩), .map m] wr fun e w' => e = .returned (.tuple #[]) ∧ w' = (wr.setCell ⟨bb, 4, none⟩ (.map m)).setCell ⟨ob, 2, none⟩ (.map m) := by
  have C := hide (set8 w wr ob tb bb eff od x m h)
  clear h
  go_enter Try.func7, Try.ntmps7
  go_wp2_with fail
  refine (unhide C).mono ?_
  rintro e w' ⟨rfl, rfl⟩
  go_wp2
  go_end0
  exact ⟨rfl, rfl⟩
end Go.Proofs.Qxb6612959a
