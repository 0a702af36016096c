/-
  Plain: the counts of the inner loop. No Go in sight.
-/
import Derived.Test.Qxb6612831aTopo
namespace Go.Proofs.Qxb6612831a
set_option linter.unusedVariables false

/-- what is left of x's count while v's edges are struck, those ahead of place j done. -/
def lft (n : Nat) (S U : Nat → Nat) (ord : List Nat) (v j x : Nat) : Nat := left n S U ord x - (cnt U x j - cnt U x (S v))

section
variable {n m : Nat} {S U : Nat → Nat} {ord : List Nat} {v j : Nat}

theorem lft_start (x : Nat) : lft n S U ord v (S v) x = left n S U ord x := by unfold lft; omega

theorem lft_end (hv : v < n) (ho : v ∉ ord) (x : Nat) : lft n S U ord v (S (v + 1)) x = left n S U (ord ++ [v]) x := by
  have := left_snoc (n := n) (S := S) (U := U) ord v x hv ho
  unfold lft
  unfold deg at this
  omega

theorem lft_other (hj : S v ≤ j) {x : Nat} (hx : U j ≠ x) : lft n S U ord v (j + 1) x = lft n S U ord v j x := by
  unfold lft; simp only [cnt]; rw [if_neg hx]; rfl

theorem lft_pos (g : Gr n m S U) (hv : v < n) (ho : v ∉ ord) (hj : S v ≤ j) (hj' : j < S (v + 1)) : 1 ≤ lft n S U ord v j (U j) := by
  have h1 := left_snoc (n := n) (S := S) (U := U) ord v (U j) hv ho
  have h2 := cnt_mono U (U j) (show j + 1 ≤ S (v + 1) by omega)
  have h3 := cnt_mono U (U j) hj
  unfold lft
  unfold deg at h1
  simp only [cnt, if_true] at h2
  omega

theorem lft_same (g : Gr n m S U) (hv : v < n) (ho : v ∉ ord) (hj : S v ≤ j) (hj' : j < S (v + 1)) : lft n S U ord v (j + 1) (U j) + 1 = lft n S U ord v j (U j) := by
  have h0 := lft_pos g hv ho hj hj'
  have h3 := cnt_mono U (U j) hj
  unfold lft at h0 ⊢
  simp only [cnt, if_true]
  omega

theorem lft_le (x : Nat) : lft n S U ord v j x ≤ left n S U ord x := by unfold lft; omega

theorem lft_new (g : Gr n m S U) (hok : Ok n S U ord) (hr : Ready n S U ord v) (hj : S v ≤ j) (hj' : j < S (v + 1)) : U j ∉ ord ++ [v] := by
  have h0 := lft_pos g hr.1 hr.2.1 hj hj'
  have h1 := lft_le (n := n) (S := S) (U := U) (ord := ord) (v := v) (j := j) (U j)
  intro hm
  rcases List.mem_append.1 hm with h | h
  · have := hok.zero _ h; omega
  · simp at h
    have := hr.2.2
    rw [h] at h0 h1; omega

end

/-- the heap holds just the nodes that fit. -/
def HeapIs (f : Nat → Int) (r : Nat) (R : Nat → Prop) : Prop := (∀ x : Int, Mem f r x ↔ ∃ y : Nat, (y : Int) = x ∧ R y) ∧ Inj f r ∧ IsHeap f r

theorem HeapIs.at {f : Nat → Int} {r : Nat} {R : Nat → Prop} (h : HeapIs f r R) {i : Nat} (hi : i < r) : ∃ y : Nat, (y : Int) = f i ∧ R y := (h.1 (f i)).1 ⟨i, hi, rfl⟩

theorem HeapIs.congr {f : Nat → Int} {r : Nat} {R R' : Nat → Prop} (h : HeapIs f r R) (e : ∀ y, R y ↔ R' y) : HeapIs f r R' :=
  ⟨fun x => (h.1 x).trans ⟨fun ⟨y, hy, r⟩ => ⟨y, hy, (e y).1 r⟩, fun ⟨y, hy, r⟩ => ⟨y, hy, (e y).2 r⟩⟩, h.2⟩

theorem HeapIs.len {f : Nat → Int} {r n : Nat} {R : Nat → Prop} (h : HeapIs f r R) (hR : ∀ y, R y → y < n) : r ≤ n :=
  inj_len h.2.1 fun i hi => by obtain ⟨y, hy, hr⟩ := h.at hi; have := hR y hr; omega

theorem HeapIs.min {f : Nat → Int} {r v : Nat} {R : Nat → Prop} (h : HeapIs f (r + 1) R) (hv : (v : Int) = f 0) : R v ∧ ∀ y, y < v → ¬ R y := by
  refine ⟨?_, fun y hy hR => ?_⟩
  · obtain ⟨y, hy, hr⟩ := h.at (i := 0) (by omega)
    have : y = v := by omega
    subst this; exact hr
  · obtain ⟨i, hi, he⟩ := (h.1 y).2 ⟨y, rfl, hR⟩
    have := heap_min h.2.2 i hi
    omega

theorem HeapIs.pop {f f' g : Nat → Int} {r v : Nat} {R : Nat → Prop} (h : HeapIs f (r + 1) R) (hv : (v : Int) = f 0) (hg : ∀ j, 0 < j → j < r → g j = f j) (h0 : g 0 = f r) (hS : Same g f' r) (hh : IsHeap f' r) : HeapIs f' r (fun y => R y ∧ y ≠ v) := by
  have hp := pop_mem h.2.1 g hg h0
  refine ⟨fun x => ?_, hS.2 hp.2, hh⟩
  rw [hS.1 x, hp.1 x, h.1 x]
  constructor
  · rintro ⟨⟨y, rfl, hy⟩, hne⟩
    exact ⟨y, rfl, hy, fun e => hne (by rw [e, hv])⟩
  · rintro ⟨y, rfl, hy, hne⟩
    exact ⟨⟨y, rfl, hy⟩, fun e => hne (by omega)⟩

theorem HeapIs.push {f f' g : Nat → Int} {r x : Nat} {R : Nat → Prop} (h : HeapIs f r R) (hx : ¬ R x) (hg : ∀ j, j < r → g j = f j) (h0 : g r = x) (hS : Same g f' (r + 1)) (hh : IsHeap f' (r + 1)) : HeapIs f' (r + 1) (fun y => R y ∨ y = x) := by
  have hnew : ¬ Mem f r (g r) := by
    rw [h.1, h0]
    rintro ⟨y, hy, hr⟩
    have : y = x := by omega
    subst this; exact hx hr
  refine ⟨fun z => ?_, hS.2 (push_inj h.2.1 g hg hnew), hh⟩
  rw [hS.1 z, push_mem g hg z, h.1 z, h0]
  constructor
  · rintro (⟨y, rfl, hy⟩ | rfl)
    · exact ⟨y, rfl, .inl hy⟩
    · exact ⟨x, rfl, .inr rfl⟩
  · rintro ⟨y, rfl, hy | rfl⟩
    · exact .inl ⟨y, rfl, hy⟩
    · exact .inr rfl

/-- sorted places make a heap. -/
theorem heap_sorted {f : Nat → Int} {r : Nat} (h : ∀ i j, i < j → j < r → f i < f j) : IsHeap f r ∧ Inj f r := by
  refine ⟨fun j h0 hj => ?_, fun i j hi hj e => ?_⟩
  · have := h ((j - 1) / 2) j (by omega) hj; omega
  · by_cases h1 : i < j
    · have := h i j h1 hj; omega
    · by_cases h2 : j < i
      · have := h j i h2 hi; omega
      · omega
end Go.Proofs.Qxb6612831a
