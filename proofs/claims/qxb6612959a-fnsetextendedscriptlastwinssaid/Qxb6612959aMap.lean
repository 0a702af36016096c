import Derived.Test.Qxb6612959aKit
import Derived.Maps.OwnSet
namespace Go.Proofs.Qxb6612959a
open Go.RowKit Go.Maps
set_option linter.unusedVariables false

theorem law3 : Keyed Try.prog 3 := int_keyed Try.underlying3
theorem zero3 (w : World) : (zeroValue 3).run Try.prog w = .ok (.int .i64 0) w := by kernel_rfl

/-- A map that is read: nil, or one that was there; asked in whatever later world. -/
structure MapV (w : World) (m : Value) : Prop where
  shape : ∃ r, m = .map r
  len : ∃ L : Nat, ∀ w', Below w.heap.size w w' → (Builtin.len_ #[23] 3 #[m]).run Try.prog w' = .ok (.int .i64 (L : Nat)) w'
  look : ∀ key : Int, (Lit.int .i64 key).wf = true → ∃ (c : Int) (b : Bool), ∀ w', Below w.heap.size w w' → (Instr.lookup 23 m (.int .i64 key) true).run Try.prog w' = .ok (.tuple #[.int .i64 c, .bool b]) w'

theorem MapV.none (w : World) : MapV w (.map .none) :=
  ⟨⟨_, rfl⟩, ⟨0, fun w' _ => Maps.len_nil Try.underlying23 3⟩, fun key wf => ⟨0, false, fun w' _ => Maps.look_nil true law3 Try.underlying23 (zero3 w') (keyOf_int_mk Try.underlying3 wf)⟩⟩

theorem MapV.own {H : Type} {w : World} {b n : Nat} {D : DataW H} (h : w.ownsMap Try.prog 3 (plainElem Try.prog 3) b n D) : MapV w (.map (some b)) := by
  have hk : ∀ w', Below w.heap.size w w' → w'.ownsMap Try.prog 3 (plainElem Try.prog 3) b n D := fun w' hB => by
    have hl := h.lt
    obtain ⟨es, clock, hb, r⟩ := h
    exact ⟨es, clock, (hB.block b hl).trans hb, r⟩
  refine ⟨⟨_, rfl⟩, ⟨Maps.size D, fun w' hB => (hk w' hB).len Try.underlying23 3⟩, fun key wf => ?_⟩
  have key' : ∀ w', Below w.heap.size w w' → ∃ c : Int, D.atKey (.int .i64 key) (.lit (.int .i64 0)) = .lit (.int .i64 c) ∧
      (Instr.lookup 23 (.map (some b)) (.int .i64 key) true).run Try.prog w' = .ok (.tuple #[.int .i64 c, .bool (Maps.has D (.int .i64 key))]) w' := by
    intro w' hB
    obtain ⟨v, ps, hrun, hv⟩ := (hk w' hB).look_ok law3 (t := 23) Try.underlying23 (zero3 _) (plainElem_int (H := H) (P := Try.prog) Try.underlying3 (WalkArith.wf_i64 (n := 0) (by omega))) (keyOf_int_mk Try.underlying3 wf)
    obtain ⟨c, rfl, hc, _⟩ := plainElem_int_inv Try.underlying3 hv
    exact ⟨c, congrArg Prod.fst hc, hrun⟩
  obtain ⟨c, hc, _⟩ := key' w (Below.refl _ _)
  refine ⟨c, Maps.has D (.int .i64 key), fun w' hB => ?_⟩
  obtain ⟨c', hc', hrun⟩ := key' w' hB
  rw [hc] at hc'
  simp at hc'
  rw [hc']; exact hrun

theorem MapV.kept {w w' : World} {m : Value} (h : MapV w m) (hB : Below w.heap.size w w') : MapV w' m :=
  ⟨h.shape, let ⟨L, hl⟩ := h.len; ⟨L, fun w2 h2 => hl w2 (hB.trans (h2.mono hB.size))⟩, fun key wf => let ⟨c, b, hr⟩ := h.look key wf; ⟨c, b, fun w2 h2 => hr w2 (hB.trans (h2.mono hB.size))⟩⟩

set_option maxHeartbeats 1000000 in
theorem reads5 (r : Option Nat) (a2 : Option Addr) (n2 c2 : Nat) (pr : Nat → Int) (w : World) (hM : MapV w (.map r)) (hs : Sl w a2 n2 c2 (fun i => .int .i64 (pr i))) (hp : ∀ i, i < n2 → (Lit.int .i64 (pr i)).wf = true) (hn : n2 ≤ 4096) :
    Calls Try.prog 5 #[.map r, .map r, .slice a2 n2 c2] w fun e w' => e = .returned (.bool true) ∧ w' = w := by
  obtain ⟨L, hL⟩ := hM.len
  have hlen := hL w (Below.refl _ _)
  clear hL
  have heq := fun r => run_eql_map_nil (P := Try.prog) w 23 3 3 r Try.underlying23
  go_enter Try.func5, Try.ntmps5
  go_wp2
  clear heq hlen
  go_loop [7] (fun i => ∃ k : Nat, k ≤ n2 ∧ i = .int .i64 k) (fun i => n2 - (intOf i).toNat)
  case atStart => exact ⟨0, Nat.zero_le _, rfl⟩
  case round =>
    obtain ⟨k, hk, rfl⟩ := hrel
    by_cases hlt : k < n2
    · obtain ⟨b, off, rfl, hc⟩ := hs.2.2.2 (by omega)
      have kk := hc k hlt
      obtain ⟨c, bb, hlook0⟩ := hM.look (pr k) (hp k hlt)
      have hlook := hlook0 w (Below.refl _ _)
      clear hlook0 hc
      obtain ⟨y, hy⟩ : ∃ y, pr k = y := ⟨_, rfl⟩
      simp only [hy] at kk hlook
      clear hy
      have e1 : (k : Int) < (n2 : Int) := by omega
      go_wp2
      go_round
      case rel => exact ⟨k + 1, by omega, by go_num⟩
      case measure => simp [intOf]; omega
    · go_wp2
      go_ret
      exact ⟨rfl, rfl⟩

end Go.Proofs.Qxb6612959a
