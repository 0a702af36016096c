/-
  A proof of 'Rows.FnSetExtendedScriptLastWinsSaid', after the shell that the kit's tool writes for slices of integers.
-/
import Derived.Test.Qxb6612959aRows
import Derived.Test.Qxb6612959aTop
import Derived.WalkKit
import Derived.ProofKit
import Derived.OpenShut
import Derived.ChangeOld
import Derived.Below
import Derived.Deep.Slices
namespace Go.Proofs.Qxb6612959a.fnSetExtendedScriptLastWins
open Go.ChangeShapes Go.WideShapes Go.ChangeAt Go.RowKit Go.WideElems
set_option linter.unusedVariables false

theorem own : ownKnob Try.prog.godebug = none := by kernel_rfl
theorem laidOut : laidOutB Try.prog = true := by kernel_rfl
theorem cells23 : Try.prog.cellsOf 23 = 1 := by kernel_rfl

/-- What the walk is told of a slice of integers that came in. -/
def IsRow (k : IntKind) (w : World) (a : Option Addr) (len cap : Nat) (zs : List Int) : Prop :=
  (a = none ∧ len = 0 ∧ cap = 0 ∧ zs = []) ∨
  ∃ x, a = some x ∧ len ≤ cap ∧ cap ≤ maxLen ∧ zs.length = cap ∧ (∀ i, i < zs.length → w.cell? (x.add i) = some (.int k (zs.getD i 0))) ∧ ∀ n ∈ zs, (Lit.int k n).wf = true

theorem IsRow.sl {k : IntKind} {w : World} {a : Option Addr} {len cap : Nat} {zs : List Int} (h : IsRow k w a len cap zs) : Sl w a len cap (fun i => .int k (zs.getD i 0)) := by
  rcases h with ⟨rfl, rfl, rfl, rfl⟩ | ⟨x, rfl, hl, hm, hz, hc, _⟩
  · exact ⟨Nat.le_refl _, Nat.zero_le _, fun _ => ⟨rfl, rfl⟩, fun h => by omega⟩
  · refine ⟨hl, hm, fun h => (by cases h), fun hn => ?_⟩
    obtain ⟨b, off, rfl, hcc⟩ := ints_at hc (by omega)
    exact ⟨b, off, rfl, fun i hi => hcc i (by omega)⟩

/-- What the walk is told of a slice of maps that came in. -/
def IsMaps (w : World) (a : Option Addr) (len cap : Nat) (rs : Nat → Option Nat) : Prop := Sl w a len cap (fun i => .map (rs i)) ∧ ∀ i, i < len → MapV w (.map (rs i))

/-- A map that came in. -/
theorem map_in {H : Type} {enc : TypeId × Value → H} {W : World} {base : Nat} {sp : Nat → Bool} {held : Bool} {fuel : Nat} {v : Value} {x : DataW H × List MemPlace} (h : DataW.trod enc Try.prog W base sp held fuel 23 [v] = some x) :
    ∃ r, v = .map r ∧ MapV W (.map r) := by
  rcases WideElems.open_map Try.underlying23 h with ⟨hcs, _⟩ | ⟨bm, es, clock, m, rfl, hcs, hb, _, F, _⟩
  · simp at hcs; subst hcs
    exact ⟨_, rfl, MapV.none W⟩
  · simp at hcs; subst hcs
    exact ⟨_, rfl, MapV.own (World.ownsMap_of_fit (R := plainElem Try.prog 3) hb F (fun x _ z hz => elemAt_plainElem_int Try.underlying3 hz))⟩

theorem cells_one {W : World} {base : Nat} {x : Addr} {cs : List Value} (h : W.cells? base x 1 = some cs) : ∃ c, cs = [c] ∧ W.cell? x = some c := by
  unfold World.cells? at h
  split at h
  · have e : x.add 0 = x := by cases x; simp [Addr.add]
    cases hc : W.cell? x with
    | none => simp [List.range_succ, e, hc] at h
    | some c =>
      simp [List.range_succ, e, hc] at h
      exact ⟨c, h.symm, rfl⟩
  · cases h

theorem maps_in {H : Type} {enc : TypeId × Value → H} {W : World} {base : Nat} {sp : Nat → Bool} {held : Bool} {fuel : Nat} {a : Option Addr} {len cap : Nat} {x : DataW H × List MemPlace}
    (h : DataW.trod enc Try.prog W base sp held fuel 22 [.slice a len cap] = some x) : ∃ rs, IsMaps W a len cap rs := by
  rcases Go.Deep.open_slice Try.underlying22 h with ⟨hcs, _⟩ | ⟨ad, l, c, m, n, D, Pl, hcs, _, hl, hm, hme, _, hel⟩
  · simp at hcs
    obtain ⟨rfl, rfl, rfl⟩ := hcs
    exact ⟨fun _ => none, ⟨Nat.le_refl _, Nat.zero_le _, fun _ => ⟨rfl, rfl⟩, fun h => by omega⟩, fun i hi => by omega⟩
  · simp at hcs
    obtain ⟨rfl, rfl, rfl⟩ := hcs
    have hlm : len ≤ m := by rw [hme]; split <;> omega
    have key : ∀ i, ∃ r, i < len → W.cell? (ad.add i) = some (.map r) ∧ MapV W (.map r) := by
      intro i
      by_cases hi : i < len
      · obtain ⟨cs', h1, h2⟩ := hel i (by omega)
        rw [cells23, Nat.mul_one] at h1
        obtain ⟨v, rfl, hv⟩ := cells_one h1
        obtain ⟨r, rfl, hM⟩ := map_in h2
        exact ⟨r, fun _ => ⟨hv, hM⟩⟩
      · exact ⟨none, fun h => absurd h hi⟩
    obtain ⟨rs, hrs⟩ := Classical.skolem.1 key
    refine ⟨rs, ⟨hl, hm, fun h => (by cases h), fun hn => ?_⟩, fun i hi => (hrs i hi).2⟩
    obtain ⟨b, off, spot⟩ := ad
    have hspot : spot = none := by simpa [Addr.add] using World.cell?_spot (hrs 0 hn).1
    subst hspot
    exact ⟨b, off, rfl, fun i hi => by have := (hrs i hi).1; rw [Addr.add_lit] at this; exact this⟩

theorem walk (a0 : Option Addr) (len0 cap0 : Nat) (rs : Nat → Option Nat) (r : Option Nat) (a2 : Option Addr) (len2 cap2 : Nat) (z2 : List Int) (eff od : Int) (w : World) (w0 : IsMaps w a0 len0 cap0 rs) (w1 : MapV w (.map r)) (w2 : IsRow .i64 w a2 len2 cap2 z2) :
    Calls Try.prog 3 #[.slice a0 len0 cap0, .map r, .slice a2 len2 cap2, .int .i32 eff, .int .i64 od] w fun e w' => e = .returned (.bool true) ∧ Below w.heap.size w w' := by
  refine top3 a0 len0 cap0 rs r a2 len2 cap2 (fun i => z2.getD i 0) eff od w w0.1 w0.2 w1 w2.sl (fun i hi => ?_)
  rcases w2 with ⟨rfl, rfl, rfl, rfl⟩ | ⟨x, rfl, hl, _, hz, _, hwf⟩
  · omega
  · refine hwf _ ?_
    rw [List.getD_eq_getElem?_getD, List.getElem?_eq_getElem (by omega)]
    exact List.getElem_mem _

set_option maxRecDepth 100000 in
theorem lifted (os : Os) (started : os.Started) (H : Type) (enc : TypeId × Value → H) :
    ReturnsInHanded {} Try.checked os 3 .any (Rows.fnSetExtendedScriptLastWinsSpec.pre6 enc Try.prog Try.f3 Rows.fnSetExtendedScriptLastWinsRow.domain false) (Rows.fnSetExtendedScriptLastWinsSpec.post enc Try.prog Try.f3 false true false false) := by
  refine returnsInHanded_of_change (C := Try.checked) own started (by kernel_rfl) Try.func3
    (ChangeSpec.witness6 (enc := enc) (C := Try.checked) false ⟨#[], #[.slice none 0 0, .map none, .slice none 0 0, .int .i32 0, .int .i64 0], []⟩ 8 (by kernel_rfl) (by kernel_rfl) (by kernel_rfl) (by kernel_rfl)) ?_
  intro W base args ds gs before hval0 hW hcnd _
  have hval : ∀ (j : Nat) t v, Try.f3.params[j]? = some t → args[j]? = some v → Value.okWide Try.prog W .any base t v := hval0
  have hW' := hW
  obtain ⟨p, q, hA0, hV, rfl, hfz, hnd⟩ := hW
  have hA : DataW.TrodAll enc Try.prog W 0 (fun _ => true) true Try.f3.params.toList args.toList ds p := hA0
  rw [Try.params3] at hA hval
  obtain ⟨v0, vs0, d0, ds0, p0, q0, hargs, rfl, rfl, h0, r0⟩ := trodAll_cons hA
  obtain ⟨v1, vs1, d1, ds1, p1, q1, rfl, rfl, rfl, h1, r1⟩ := trodAll_cons r0
  obtain ⟨v2, vs2, d2, ds2, p2, q2, rfl, rfl, rfl, h2, r2⟩ := trodAll_cons r1
  obtain ⟨v3, vs3, d3, ds3, p3, q3, rfl, rfl, rfl, h3, r3⟩ := trodAll_cons r2
  obtain ⟨v4, vs4, d4, ds4, p4, q4, rfl, rfl, rfl, h4, r4⟩ := trodAll_cons r3
  obtain ⟨rfl, rfl, rfl⟩ := trodAll_nil r4
  obtain rfl : args = #[v0, v1, v2, v3, v4] := by cases args; simp_all
  obtain ⟨rfl, rfl⟩ := trodVars_none hV
  obtain ⟨a0, len0, cap0, rfl⟩ := okWide_slice Try.underlying22 (hval 0 22 v0 rfl rfl)
  have k0 := h0
  have lt0 : ∀ x ∈ p0, x.block < W.heap.size := by obtain ⟨m, hm⟩ := k0; exact DataW.trod_lt m _ _ _ hm
  obtain ⟨rs, w0⟩ : ∃ rs, IsMaps W a0 len0 cap0 rs := by
    obtain ⟨fuel, hf⟩ := h0
    exact maps_in hf
  obtain ⟨r, rfl⟩ := okWide_map Try.underlying23 (hval 1 23 v1 rfl rfl)
  have k1 := h1
  have lt1 : ∀ x ∈ p1, x.block < W.heap.size := by obtain ⟨m, hm⟩ := k1; exact DataW.trod_lt m _ _ _ hm
  have w1 : MapV W (.map r) := by
    obtain ⟨fuel, hf⟩ := h1
    obtain ⟨r', e, hM⟩ := map_in hf
    rw [e]; exact hM
  obtain ⟨a2, len2, cap2, rfl⟩ := okWide_slice Try.underlying24 (hval 2 24 v2 rfl rfl)
  have k2 := h2
  have lt2 : ∀ x ∈ p2, x.block < W.heap.size := by obtain ⟨m, hm⟩ := k2; exact DataW.trod_lt m _ _ _ hm
  obtain ⟨z2, w2⟩ : ∃ zs, IsRow .i64 W a2 len2 cap2 zs := by
    obtain ⟨fuel, hf⟩ := h2
    rcases open_ints Try.underlying24 Try.underlying3 (by kernel_rfl) hf with ⟨hcs, _⟩ | ⟨x, l, c, zs, hcs, _, hl, hm, hz, _, hcell, hwz⟩
    · simp [Value.cells] at hcs
      obtain ⟨rfl, rfl, rfl⟩ := hcs
      exact ⟨[], .inl ⟨rfl, rfl, rfl, rfl⟩⟩
    · simp [Value.cells] at hcs
      obtain ⟨rfl, rfl, rfl⟩ := hcs
      exact ⟨zs, .inr ⟨_, rfl, hl, hm, by simpa using hz, hcell, hwz⟩⟩
  have k3 := h3
  have lt3 : ∀ x ∈ p3, x.block < W.heap.size := by obtain ⟨m, hm⟩ := k3; exact DataW.trod_lt m _ _ _ hm
  have k4 := h4
  have lt4 : ∀ x ∈ p4, x.block < W.heap.size := by obtain ⟨m, hm⟩ := k4; exact DataW.trod_lt m _ _ _ hm
  obtain ⟨eff, rfl, rfl, rfl, we⟩ := open_int Try.underlying21 (hval 3 21 v3 rfl rfl) h3
  obtain ⟨od, rfl, rfl, rfl, wo⟩ := open_int Try.underlying3 (hval 4 3 v4 rfl rfl) h4
  clear hA0 hval0
  refine (walk a0 len0 cap0 rs r a2 len2 cap2 z2 eff od W w0 w1 w2).mono fun e W' ⟨he, bel⟩ => ?_
  subst he
  exact ⟨_, rfl, _, _, _, [], _, [], hW', trodAll_mk1 (shut_bool Try.underlying4 _), (trodAll_cons_mk (Below.trod laidOut (by kernel_rfl) (of_decide_eq_true (by kernel_rfl)) k0 bel lt0) (trodAll_cons_mk (Below.trod laidOut (by kernel_rfl) (of_decide_eq_true (by kernel_rfl)) k1 bel lt1) (trodAll_cons_mk (Below.trod laidOut (by kernel_rfl) (of_decide_eq_true (by kernel_rfl)) k2 bel lt2) (trodAll_cons_mk (Below.trod laidOut (by kernel_rfl) (of_decide_eq_true (by kernel_rfl)) k3 bel lt3) (trodAll_cons_mk (Below.trod laidOut (by kernel_rfl) (of_decide_eq_true (by kernel_rfl)) k4 bel lt4) trodAll_mk0))))), rfl, bel.frame _, fun h => by cases h⟩

theorem over : Rows.fnSetExtendedScriptLastWinsRow.holds Try.pinned (OpenSpec.ofChange Rows.fnSetExtendedScriptLastWinsSpec) :=
  OpenClaim.holds_of_wide 3 Try.f3 rfl rfl rfl rfl rfl rfl rfl ⟨rfl, rfl, rfl, rfl, rfl⟩ rfl rfl rfl rfl rfl (by kernel_rfl) Try.func3 (by kernel_rfl)
    (of_decide_eq_true (by kernel_rfl)) (by unfold Func.isWrapper; first | (rw [if_pos (by decide +kernel)]; kernel_rfl) | (rw [if_neg (by decide +kernel)]; exact ⟨rfl, rfl⟩))
    (fun os started H enc _ => lifted os started H enc)

/-- THE STATEMENT -/
theorem proved : Rows.FnSetExtendedScriptLastWinsSaid := over
end Go.Proofs.Qxb6612959a.fnSetExtendedScriptLastWins
