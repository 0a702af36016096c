/-
  Plain: a binary heap told by a function on places. No Go in sight.
-/
import Derived.Test.Qxb6612831aRows
namespace Go.Proofs.Qxb6612831a

def IsHeap (f : Nat → Int) (n : Nat) : Prop := ∀ j, 0 < j → j < n → f ((j - 1) / 2) ≤ f j
def UpAt (f : Nat → Int) (n i : Nat) : Prop :=
  (∀ j, 0 < j → j < n → j ≠ i → f ((j - 1) / 2) ≤ f j) ∧ (∀ j, 0 < j → j < n → (j - 1) / 2 = i → 0 < i → f ((i - 1) / 2) ≤ f j)
def DownAt (f : Nat → Int) (n i : Nat) : Prop :=
  (∀ j, 0 < j → j < n → (j - 1) / 2 ≠ i → f ((j - 1) / 2) ≤ f j) ∧ (∀ j, 0 < j → j < n → (j - 1) / 2 = i → 0 < i → f ((i - 1) / 2) ≤ f j)
def swp (f : Nat → Int) (i j : Nat) : Nat → Int := fun k => if k = i then f j else if k = j then f i else f k

theorem swp_l (f : Nat → Int) (i j : Nat) : swp f i j i = f j := by simp [swp]
theorem swp_r (f : Nat → Int) (i j : Nat) : swp f i j j = f i := by
  unfold swp; by_cases h : j = i
  · simp [h]
  · simp [h]
theorem swp_o (f : Nat → Int) {i j k : Nat} (h1 : k ≠ i) (h2 : k ≠ j) : swp f i j k = f k := by simp [swp, h1, h2]

theorem up_done {f : Nat → Int} {n i : Nat} (h : UpAt f n i) (hi : i = 0 ∨ f ((i - 1) / 2) ≤ f i) : IsHeap f n := by
  intro j h0 hn
  by_cases e : j = i
  · subst e
    rcases hi with h1 | h1
    · omega
    · exact h1
  · exact h.1 j h0 hn e

theorem up_step {f : Nat → Int} {n i : Nat} (h : UpAt f n i) (hi : 0 < i) (hin : i < n) (hlt : f i < f ((i - 1) / 2)) : UpAt (swp f ((i - 1) / 2) i) n ((i - 1) / 2) := by
  generalize hu : (i - 1) / 2 = u at *
  have hui : u < i := by omega
  refine ⟨fun j h0 hn hju => ?_, fun j h0 hn hp hu0 => ?_⟩
  · by_cases e1 : j = i
    · subst e1
      rw [hu, swp_l, swp_r]; omega
    · rw [swp_o f hju e1]
      by_cases e2 : (j - 1) / 2 = i
      · rw [e2, swp_r]
        have := h.2 j h0 hn e2 hi
        rw [hu] at this; exact this
      · by_cases e3 : (j - 1) / 2 = u
        · rw [e3, swp_l]
          have := h.1 j h0 hn e1
          rw [e3] at this; omega
        · rw [swp_o f e3 e2]; exact h.1 j h0 hn e1
  · have hpu : (u - 1) / 2 < u := by omega
    rw [swp_o f (show (u - 1) / 2 ≠ u by omega) (show (u - 1) / 2 ≠ i by omega)]
    have hup := h.1 u hu0 (by omega) (by omega)
    by_cases e1 : j = i
    · subst e1; rw [swp_r]; exact hup
    · rw [swp_o f (show j ≠ u by omega) e1]
      have := h.1 j h0 hn e1
      rw [hp] at this; omega

theorem down_done {f : Nat → Int} {n i : Nat} (h : DownAt f n i) (hi : ∀ j, 0 < j → j < n → (j - 1) / 2 = i → f i ≤ f j) : IsHeap f n := by
  intro j h0 hn
  by_cases e : (j - 1) / 2 = i
  · rw [e]; exact hi j h0 hn e
  · exact h.1 j h0 hn e

theorem down_step {f : Nat → Int} {n i d : Nat} (h : DownAt f n i) (hd0 : 0 < d) (hdn : d < n) (hp : (d - 1) / 2 = i) (hmin : ∀ j, 0 < j → j < n → (j - 1) / 2 = i → f d ≤ f j) (hlt : f d < f i) : DownAt (swp f i d) n d := by
  have hid : i < d := by omega
  refine ⟨fun j h0 hn hjp => ?_, fun j h0 hn hjp hd => ?_⟩
  · by_cases e1 : (j - 1) / 2 = i
    · rw [e1, swp_l]
      by_cases e2 : j = d
      · subst e2; rw [swp_r]; omega
      · rw [swp_o f (show j ≠ i by omega) e2]
        exact hmin j h0 hn e1
    · rw [swp_o f e1 hjp]
      by_cases e2 : j = i
      · subst e2; rw [swp_l]
        exact h.2 d hd0 hdn hp h0
      · rw [swp_o f e2 (show j ≠ d by intro e; subst e; exact e1 hp)]
        exact h.1 j h0 hn e1
  · rw [hp, swp_l, swp_o f (show j ≠ i by omega) (show j ≠ d by omega)]
    have := h.1 j h0 hn (by omega)
    rw [hjp] at this; exact this

theorem heap_min {f : Nat → Int} {n : Nat} (h : IsHeap f n) : ∀ i, i < n → f 0 ≤ f i := by
  intro i
  induction i using Nat.strongRecOn with
  | ind i ih =>
    intro hi
    by_cases e : i = 0
    · subst e; exact Int.le_refl _
    · have h1 := ih ((i - 1) / 2) (by omega) (by omega)
      have h2 := h i (by omega) hi
      omega

/-- x stands in one of the first n places. -/
def Mem (f : Nat → Int) (n : Nat) (x : Int) : Prop := ∃ i, i < n ∧ f i = x
/-- no two of the first n places hold the same. -/
def Inj (f : Nat → Int) (n : Nat) : Prop := ∀ i j, i < n → j < n → f i = f j → i = j
/-- g holds what f holds. -/
def Same (f g : Nat → Int) (n : Nat) : Prop := (∀ x, Mem g n x ↔ Mem f n x) ∧ (Inj f n → Inj g n)

theorem Same.refl (f : Nat → Int) (n : Nat) : Same f f n := ⟨fun _ => Iff.rfl, id⟩
theorem Same.trans {f g h : Nat → Int} {n : Nat} (a : Same f g n) (b : Same g h n) : Same f h n := ⟨fun x => (b.1 x).trans (a.1 x), fun i => b.2 (a.2 i)⟩

theorem mem_swp {f : Nat → Int} {n i j : Nat} (hi : i < n) (hj : j < n) {x : Int} (h : Mem f n x) : Mem (swp f i j) n x := by
  obtain ⟨k, hk, rfl⟩ := h
  by_cases e1 : k = i
  · subst e1; exact ⟨j, hj, swp_r _ _ _⟩
  · by_cases e2 : k = j
    · subst e2; exact ⟨i, hi, swp_l _ _ _⟩
    · exact ⟨k, hk, swp_o _ e1 e2⟩

theorem swp_swp (f : Nat → Int) (i j : Nat) : swp (swp f i j) i j = f := by
  funext k
  by_cases e1 : k = i
  · subst e1; rw [swp_l, swp_r]
  · by_cases e2 : k = j
    · subst e2; rw [swp_r, swp_l]
    · rw [swp_o _ e1 e2, swp_o _ e1 e2]

theorem same_swp (f : Nat → Int) {n i j : Nat} (hi : i < n) (hj : j < n) : Same f (swp f i j) n := by
  refine ⟨fun x => ⟨fun h => ?_, fun h => mem_swp hi hj h⟩, fun hinj a b ha hb hab => ?_⟩
  · have := mem_swp hi hj h
    rw [swp_swp] at this; exact this
  · have key : ∀ k, k < n → ∃ k', k' < n ∧ swp f i j k = f k' ∧ ((k = i ∧ k' = j) ∨ (k ≠ i ∧ k = j ∧ k' = i) ∨ (k ≠ i ∧ k ≠ j ∧ k' = k)) := by
      intro k hk
      by_cases e1 : k = i
      · subst e1; exact ⟨j, hj, swp_l _ _ _, .inl ⟨rfl, rfl⟩⟩
      · by_cases e2 : k = j
        · subst e2; exact ⟨i, hi, swp_r _ _ _, .inr (.inl ⟨e1, rfl, rfl⟩)⟩
        · exact ⟨k, hk, swp_o _ e1 e2, .inr (.inr ⟨e1, e2, rfl⟩)⟩
    obtain ⟨a', ha', ea, ca⟩ := key a ha
    obtain ⟨b', hb', eb, cb⟩ := key b hb
    have := hinj a' b' ha' hb' (by rw [← ea, ← eb, hab])
    omega

/-- The push: one element laid behind. -/
theorem push_up {f : Nat → Int} {n : Nat} (h : IsHeap f n) (g : Nat → Int) (hg : ∀ j, j < n → g j = f j) : UpAt g (n + 1) n := by
  refine ⟨fun j h0 hn hj => ?_, fun j h0 hn hp _ => by omega⟩
  rw [hg j (by omega), hg _ (by omega)]
  exact h j h0 (by omega)

/-- The pop: the last goes to the first place. -/
theorem pop_down {f : Nat → Int} {n : Nat} (h : IsHeap f (n + 1)) (g : Nat → Int) (hg : ∀ j, 0 < j → j < n → g j = f j) : DownAt g n 0 := by
  refine ⟨fun j h0 hn hj => ?_, fun j h0 hn hp h => by omega⟩
  rw [hg j (by omega) (by omega), hg _ (by omega) (by omega)]
  exact h j h0 (by omega)

theorem pop_mem {f : Nat → Int} {n : Nat} (hinj : Inj f (n + 1)) (g : Nat → Int) (hg : ∀ j, 0 < j → j < n → g j = f j) (h0 : g 0 = f n) :
    (∀ x, Mem g n x ↔ Mem f (n + 1) x ∧ x ≠ f 0) ∧ Inj g n := by
  refine ⟨fun x => ⟨?_, ?_⟩, fun a b ha hb hab => ?_⟩
  · rintro ⟨i, hi, rfl⟩
    by_cases e : i = 0
    · subst e
      rw [h0]
      exact ⟨⟨n, by omega, rfl⟩, fun e => by have := hinj n 0 (by omega) (by omega) e; omega⟩
    · rw [hg i (by omega) hi]
      exact ⟨⟨i, by omega, rfl⟩, fun e' => e (hinj i 0 (by omega) (by omega) e')⟩
  · rintro ⟨⟨i, hi, rfl⟩, hne⟩
    by_cases e : i = n
    · subst e
      by_cases e2 : i = 0
      · subst e2; exact absurd rfl hne
      · exact ⟨0, by omega, h0⟩
    · by_cases e2 : i = 0
      · subst e2; exact absurd rfl hne
      · exact ⟨i, by omega, hg i (by omega) (by omega)⟩
  · by_cases ea : a = 0
    · by_cases eb : b = 0
      · omega
      · subst ea
        rw [h0, hg b (by omega) hb] at hab
        have := hinj n b (by omega) (by omega) hab
        omega
    · by_cases eb : b = 0
      · subst eb
        rw [h0, hg a (by omega) ha] at hab
        have := hinj a n (by omega) (by omega) hab
        omega
      · rw [hg a (by omega) ha, hg b (by omega) hb] at hab
        exact hinj a b (by omega) (by omega) hab

theorem push_mem {f : Nat → Int} {n : Nat} (g : Nat → Int) (hg : ∀ j, j < n → g j = f j) : ∀ x, Mem g (n + 1) x ↔ Mem f n x ∨ x = g n := by
  intro x
  constructor
  · rintro ⟨i, hi, rfl⟩
    by_cases e : i = n
    · subst e; exact .inr rfl
    · exact .inl ⟨i, by omega, (hg i (by omega)).symm⟩
  · rintro (⟨i, hi, rfl⟩ | rfl)
    · exact ⟨i, by omega, hg i hi⟩
    · exact ⟨n, by omega, rfl⟩

theorem push_inj {f : Nat → Int} {n : Nat} (hinj : Inj f n) (g : Nat → Int) (hg : ∀ j, j < n → g j = f j) (hnew : ¬ Mem f n (g n)) : Inj g (n + 1) := by
  intro a b ha hb hab
  by_cases ea : a = n
  · by_cases eb : b = n
    · omega
    · subst ea
      exact absurd ⟨b, by omega, by rw [← hg b (by omega)]; exact hab.symm⟩ hnew
  · by_cases eb : b = n
    · subst eb
      exact absurd ⟨a, by omega, by rw [← hg a (by omega)]; exact hab⟩ hnew
    · rw [hg a (by omega), hg b (by omega)] at hab
      exact hinj a b (by omega) (by omega) hab
end Go.Proofs.Qxb6612831a
