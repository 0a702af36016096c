import Derived.Test.Qxb6612903aKit
import Derived.Maps.OwnSet
import Derived.Laws.BytesArg
import Derived.Laws.Cover1
import Derived.Deep.RegionWith
namespace Go.Proofs.Qxb6612903a
open Go.RowKit Go.Maps
set_option linter.unusedVariables false

def eqB (s t : ByteArray) : Bool := s.toList == t.toList
def gtB (s t : ByteArray) : Bool := !(Op.bytesLess s.toList t.toList || s.toList == t.toList)

/-- the greatest place below n that holds K, or -1. -/
def lastIdx (K : ByteArray) (f : Nat → ByteArray) : Nat → Int
  | 0 => -1
  | n + 1 => if eqB (f n) K then (n : Int) else lastIdx K f n

/-- what find hands back on a fresh ascending. -/
def findF (K : ByteArray) (f : Nat → ByteArray) (n : Nat) : Int := if n = 0 then -1 else if gtB K (f (n - 1)) = true then -1 else lastIdx K f n

def strOf (n : Nat) (x : Nat → Int) : ByteArray := strOfNums ((List.range n).map x)

theorem conv_zero (w : World) (a : Option Addr) (c : Nat) : (convert 22 9 (.slice a 0 c)).run Try.prog w = .ok (.string (strOf 0 (fun _ => 0))) w := by
  rw [run_convert_bytes_string w 22 9 5 _ 0 c Try.underlying22 Try.underlying5 Try.underlying9]
  cases a <;> simp [Conv.bytesToString, loadCells]
  all_goals rfl

theorem conv_sl {w : World} {a : Option Addr} {n c : Nat} {x : Nat → Int} (h : Sl w a n c (fun i => .int .u8 (x i))) (k : Nat) : (convert 22 9 (.slice a n c)).run Try.prog (w.drewN k) = .ok (.string (strOf n x)) (w.drewN k) := by
  by_cases h0 : n = 0
  · subst h0; exact conv_zero _ a c
  · obtain ⟨b, off, rfl, hc⟩ := h.2.2.2 (by omega)
    refine run_convert_bytes_arg (P := Try.prog) (w.drewN k) 22 5 Try.underlying22 Try.underlying5 b off n c ((List.range n).map x) (by simp) (fun i hi => ?_) 9 Try.underlying9
    rw [World.cell?_drewN, hc i hi]
    simp [hi]

theorem Sl.keptF {S : List Nat} {w w' : World} {a : Option Addr} {n cap : Nat} {f : Nat → Value} (h : Sl w a n cap f) (hF : Fr S w w') (hB : ∀ x, a = some x → x.block ∉ S) : Sl w' a n cap f := by
  refine ⟨h.1, h.2.1, h.2.2.1, fun hn => ?_⟩
  obtain ⟨b, off, rfl, hc⟩ := h.2.2.2 hn
  exact ⟨b, off, rfl, fun i hi => hF.cell (hc i hi) (hB _ rfl)⟩

set_option maxHeartbeats 400000 in
theorem clo10 (kb : Nat) (a1 : Option Addr) (n c1 i : Nat) (f : Nat → ByteArray) (w : World) (hi : i < n) (hn : n ≤ 2000000) (hK : w.cell? ⟨kb, 0, none⟩ = some (.slice a1 n c1)) (hs : Sl w a1 n c1 (fun i => .string (f i))) :
    Calls Try.prog 10 #[.int .i64 i, .pointer (some ⟨kb, 0, none⟩)] w fun e w' => e = .returned (.string (f i)) ∧ w' = w := by
  obtain ⟨b, off, rfl, hc⟩ := hs.2.2.2 (by omega)
  have k1 := hc i hi
  clear hc
  go_enter Try.func10, Try.ntmps10
  go_wp2
  go_ret
  exact ⟨rfl, rfl⟩

theorem law : Keyed Try.prog 9 := string_keyed Try.underlying9
theorem zero3 (w : World) : (zeroValue 3).run Try.prog w = .ok (.int .i64 0) w := by kernel_rfl

theorem ret_int {k : IntKind} {a b : Int} (h : a = b) : Ending.returned (.int k a) = .returned (.int k b) := by rw [h]

theorem wrap_in {x : Int} (h1 : -9223372036854775808 ≤ x) (h2 : x ≤ 9223372036854775807) : IntKind.i64.wrap x = x := by
  rw [IntKind.wrap_i64]; omega

theorem run_mm (n : Nat) (w : World) : (Instr.makeMap 26 (some (.int .i64 ((n : Int) + 1)))).run Try.prog w = .ok (.map (some w.heap.size)) (w.alloc (.map #[] 0)) := by
  simp [Instr.makeMap, asInt, asIntOf, Result.andThen]

theorem beq_symm (a b : List UInt8) : (a == b) = (b == a) := by
  cases h : (b == a)
  · rw [beq_eq_false_iff_ne] at h ⊢; exact fun e => h e.symm
  · rw [beq_iff_eq] at h ⊢; exact h.symm

theorem findF_eq {K L : ByteArray} {f : Nat → ByteArray} {n : Nat} (hn : ¬ n = 0) (hL : f (n - 1) = L) (h : (K.toList == L.toList) = true) : findF K f n = (n : Int) - 1 := by
  have hg : gtB K L = false := by unfold gtB; rw [h]; simp
  unfold findF
  rw [if_neg hn, hL, hg]
  obtain ⟨m, rfl⟩ : ∃ m, n = m + 1 := ⟨n - 1, by omega⟩
  simp only [Nat.add_sub_cancel] at hL
  have he : eqB (f m) K = true := by unfold eqB; rw [hL, beq_symm]; exact h
  simp only [lastIdx, he, if_true]
  simp

/-- the map after k stores, asked at K alone. -/
def MapIs (D : DataW Unit) (K : ByteArray) (f : Nat → ByteArray) (k : Nat) : Prop :=
  IsMap D ∧ ((lastIdx K f k = -1 ∧ Maps.has D (.string K.data.toList) = false) ∨
   (0 ≤ lastIdx K f k ∧ Maps.has D (.string K.data.toList) = true ∧ D.atKey (.string K.data.toList) (.lit (.int .i64 0)) = .lit (.int .i64 (lastIdx K f k))))

theorem mapIs_zero (K : ByteArray) (f : Nat → ByteArray) : MapIs (.map []) K f 0 := ⟨isMap_empty, .inl ⟨rfl, rfl⟩⟩

theorem mapIs_step {D : DataW Unit} {K : ByteArray} {f : Nat → ByteArray} {k : Nat} (h : MapIs D K f k) : MapIs (D.put (.string (f k).data.toList) (.lit (.int .i64 k))) K f (k + 1) := by
  refine ⟨h.1.put _ _, ?_⟩
  by_cases e : (f k).data.toList = K.data.toList
  · have he : eqB (f k) K = true := by unfold eqB; rw [ByteArray.toList_eq, ByteArray.toList_eq, e]; simp
    have hl : lastIdx K f (k + 1) = (k : Int) := by simp [lastIdx, he]
    rw [hl, e]
    exact .inr ⟨by omega, has_put_same h.1 (by simp [WideAt.IsKeyLit]) _, atKey_put_same h.1 (by simp [WideAt.IsKeyLit]) _ _⟩
  · have he : eqB (f k) K = false := by unfold eqB; rw [ByteArray.toList_eq, ByteArray.toList_eq, beq_eq_false_iff_ne]; exact e
    have hl : lastIdx K f (k + 1) = lastIdx K f k := by simp [lastIdx, he]
    have hne : (Lit.string K.data.toList) ≠ .string (f k).data.toList := by intro h; simp at h; exact e (by rw [h])
    rw [hl, has_put_other hne, atKey_put_other hne]
    exact h.2

theorem look_all {wr : World} {MB n : Nat} {D : DataW Unit} {K : ByteArray} (hM : wr.ownsMap Try.prog 9 (plainElem Try.prog 3) MB n D) (hx : K.size ≤ maxLen) :
    ∃ c : Int, D.atKey (.string K.data.toList) (.lit (.int .i64 0)) = .lit (.int .i64 c) ∧
      ∀ j, (Instr.lookup 26 (.map (some MB)) (.string K) true).run Try.prog (wr.drewN j) = .ok (.tuple #[.int .i64 c, .bool (Maps.has D (.string K.data.toList))]) (wr.drewN j) := by
  have key : ∀ j, ∃ c : Int, D.atKey (.string K.data.toList) (.lit (.int .i64 0)) = .lit (.int .i64 c) ∧
      (Instr.lookup 26 (.map (some MB)) (.string K) true).run Try.prog (wr.drewN j) = .ok (.tuple #[.int .i64 c, .bool (Maps.has D (.string K.data.toList))]) (wr.drewN j) := by
    intro j
    have hM' : (wr.drewN j).ownsMap Try.prog 9 (plainElem Try.prog 3) MB n D := hM
    obtain ⟨v, ps, hrun, hv⟩ := hM'.look_ok law (t := 26) Try.underlying26 (zero3 _) (plainElem_int (H := Unit) (P := Try.prog) Try.underlying3 (WalkArith.wf_i64 (n := 0) (by omega))) (Go.WideMaps.keyOf_string_mk Try.underlying9 hx)
    obtain ⟨c, rfl, hc, _⟩ := plainElem_int_inv Try.underlying3 hv
    exact ⟨c, congrArg Prod.fst hc, hrun⟩
  obtain ⟨c, hc, _⟩ := key 0
  refine ⟨c, hc, fun j => ?_⟩
  obtain ⟨c', hc', hrun⟩ := key j
  rw [hc] at hc'
  simp at hc'
  rw [hc']; exact hrun
end Go.Proofs.Qxb6612903a
