/-
  Plain: the smallest topological order. No Go in sight. n nodes; node v's edges are the places from S v up to S (v + 1); the edge at place k leads to U k.
-/
import Derived.Test.Qxb6612831aHeap
namespace Go.Proofs.Qxb6612831a

structure Gr (n m : Nat) (S U : Nat → Nat) : Prop where
  s0 : S 0 = 0
  sn : S n = m
  mono : ∀ v, v < n → S v ≤ S (v + 1)
  lt : ∀ k, k < m → U k < n

/-- how many of the first j places lead to x. -/
def cnt (U : Nat → Nat) (x : Nat) : Nat → Nat
  | 0 => 0
  | j + 1 => cnt U x j + if U j = x then 1 else 0

def deg (S U : Nat → Nat) (v x : Nat) : Nat := cnt U x (S (v + 1)) - cnt U x (S v)

def sumTo (f : Nat → Nat) : Nat → Nat
  | 0 => 0
  | n + 1 => sumTo f n + f n

/-- how many edges from nodes outside ord lead to x. -/
def left (n : Nat) (S U : Nat → Nat) (ord : List Nat) (x : Nat) : Nat := sumTo (fun v => if v ∈ ord then 0 else deg S U v x) n

def Ready (n : Nat) (S U : Nat → Nat) (ord : List Nat) (x : Nat) : Prop := x < n ∧ x ∉ ord ∧ left n S U ord x = 0
def Next (n : Nat) (S U : Nat → Nat) (ord : List Nat) (x : Nat) : Prop := Ready n S U ord x ∧ ∀ y, y < x → ¬ Ready n S U ord y

structure Ok (n : Nat) (S U : Nat → Nat) (ord : List Nat) : Prop where
  good : ∀ j x, ord[j]? = some x → Next n S U (ord.take j) x
  nodup : ord.Nodup
  lt : ∀ x, x ∈ ord → x < n
  zero : ∀ x, x ∈ ord → left n S U ord x = 0

section
variable {n m : Nat} {S U : Nat → Nat}

theorem Gr.le (g : Gr n m S U) : ∀ v, v ≤ n → S v ≤ m := by
  have : ∀ d v, v + d = n → S v ≤ m := by
    intro d
    induction d with
    | zero => intro v h; have : v = n := by omega
              subst this; rw [g.sn]; exact Nat.le_refl _
    | succ d ih =>
      intro v h
      have h1 := ih (v + 1) (by omega)
      have h2 := g.mono v (by omega)
      omega
  intro v hv
  exact this (n - v) v (by omega)

theorem cnt_mono (U : Nat → Nat) (x : Nat) {a b : Nat} (h : a ≤ b) : cnt U x a ≤ cnt U x b := by
  induction b with
  | zero => have : a = 0 := by omega
            subst this; exact Nat.le_refl _
  | succ b ih =>
    by_cases e : a = b + 1
    · subst e; exact Nat.le_refl _
    · have := ih (by omega)
      simp only [cnt]; omega

theorem cnt_le (U : Nat → Nat) (x : Nat) : ∀ j, cnt U x j ≤ j
  | 0 => Nat.le_refl _
  | j + 1 => by
    have := cnt_le U x j
    simp only [cnt]; split <;> omega

theorem cnt_eq_iff (U : Nat → Nat) (x : Nat) {a b : Nat} (h : a ≤ b) : cnt U x b = cnt U x a ↔ ∀ k, a ≤ k → k < b → U k ≠ x := by
  induction b with
  | zero => have : a = 0 := by omega
            subst this; simp
  | succ b ih =>
    by_cases e : a = b + 1
    · subst e; simp; omega
    · have ih := ih (by omega)
      have hm := cnt_mono U x (show a ≤ b by omega)
      simp only [cnt]
      constructor
      · intro hc k hk1 hk2
        by_cases hb : U b = x
        · rw [if_pos hb] at hc; omega
        · rw [if_neg hb] at hc
          by_cases ek : k = b
          · subst ek; exact hb
          · exact ih.1 (by omega) k hk1 (by omega)
      · intro hk
        rw [if_neg (hk b (by omega) (by omega)), ih.2 fun k h1 h2 => hk k h1 (by omega), Nat.add_zero]

theorem deg_zero (g : Gr n m S U) {v : Nat} (hv : v < n) (x : Nat) : deg S U v x = 0 ↔ ∀ k, S v ≤ k → k < S (v + 1) → U k ≠ x := by
  rw [← cnt_eq_iff U x (g.mono v hv)]
  have := cnt_mono U x (g.mono v hv)
  unfold deg; omega

theorem sumTo_congr {f g : Nat → Nat} : ∀ {n}, (∀ v, v < n → f v = g v) → sumTo f n = sumTo g n
  | 0, _ => rfl
  | n + 1, h => by
    simp only [sumTo]
    rw [sumTo_congr (fun v hv => h v (by omega)), h n (by omega)]

theorem sumTo_zero {f : Nat → Nat} : ∀ {n}, sumTo f n = 0 ↔ ∀ v, v < n → f v = 0
  | 0 => by simp [sumTo]
  | n + 1 => by
    simp only [sumTo]
    have ih := sumTo_zero (f := f) (n := n)
    constructor
    · intro h v hv
      by_cases e : v = n
      · subst e; omega
      · exact ih.1 (by omega) v (by omega)
    · intro h
      have := ih.2 fun v hv => h v (by omega)
      have := h n (by omega)
      omega

theorem sumTo_le {f g : Nat → Nat} : ∀ {n}, (∀ v, v < n → f v ≤ g v) → sumTo f n ≤ sumTo g n
  | 0, _ => Nat.le_refl _
  | n + 1, h => by
    simp only [sumTo]
    have := sumTo_le (n := n) (fun v hv => h v (by omega))
    have := h n (by omega)
    omega

theorem left_zero (g : Gr n m S U) (ord : List Nat) (x : Nat) : left n S U ord x = 0 ↔ ∀ v, v < n → v ∉ ord → ∀ k, S v ≤ k → k < S (v + 1) → U k ≠ x := by
  unfold left
  rw [sumTo_zero]
  constructor
  · intro h v hv ho
    have := h v hv
    rw [if_neg ho] at this
    exact (deg_zero g hv x).1 this
  · intro h v hv
    by_cases ho : v ∈ ord
    · rw [if_pos ho]
    · rw [if_neg ho]; exact (deg_zero g hv x).2 (h v hv ho)

theorem left_nil (g : Gr n m S U) (x : Nat) : left n S U [] x = cnt U x m := by
  have key : ∀ j, j ≤ n → sumTo (fun v => deg S U v x) j = cnt U x (S j) := by
    intro j
    induction j with
    | zero => intro _; rw [g.s0]; rfl
    | succ j ih =>
      intro hj
      have h1 := ih (by omega)
      have h2 := cnt_mono U x (g.mono j (by omega))
      simp only [sumTo]
      rw [h1]; unfold deg; omega
  unfold left
  have := key n (Nat.le_refl _)
  rw [g.sn] at this
  rw [← this]
  exact sumTo_congr fun v _ => by simp

theorem left_snoc (ord : List Nat) (v x : Nat) (hv : v < n) (ho : v ∉ ord) : left n S U (ord ++ [v]) x + deg S U v x = left n S U ord x := by
  have key : ∀ j, j ≤ n → sumTo (fun u => if u ∈ ord ++ [v] then 0 else deg S U u x) j + (if v < j then deg S U v x else 0) = sumTo (fun u => if u ∈ ord then 0 else deg S U u x) j := by
    intro j
    induction j with
    | zero => intro _; simp [sumTo]
    | succ j ih =>
      intro hj
      have ih := ih (by omega)
      simp only [sumTo]
      by_cases e : j = v
      · subst e
        rw [if_neg (show ¬ j < j by omega)] at ih
        rw [if_pos (show j < j + 1 by omega), if_pos (show j ∈ ord ++ [j] by simp), if_neg ho]
        omega
      · have hmem : (j ∈ ord ++ [v]) ↔ j ∈ ord := by simp [e]
        by_cases hl : v < j
        · rw [if_pos hl] at ih
          rw [if_pos (show v < j + 1 by omega)]
          by_cases hm : j ∈ ord
          · rw [if_pos hm, if_pos (hmem.2 hm)]; omega
          · rw [if_neg hm, if_neg (fun h => hm (hmem.1 h))]; omega
        · rw [if_neg hl] at ih
          rw [if_neg (show ¬ v < j + 1 by omega)]
          by_cases hm : j ∈ ord
          · rw [if_pos hm, if_pos (hmem.2 hm)]; omega
          · rw [if_neg hm, if_neg (fun h => hm (hmem.1 h))]; omega
  have := key n (Nat.le_refl _)
  rw [if_pos hv] at this
  exact this

theorem Ok.nil : Ok n S U [] := ⟨by simp, List.nodup_nil, by simp, by simp⟩

theorem Ok.snoc {ord : List Nat} (h : Ok n S U ord) {x : Nat} (hx : Next n S U ord x) : Ok n S U (ord ++ [x]) := by
  refine ⟨fun j y hy => ?_, ?_, ?_, ?_⟩
  · by_cases hj : j < ord.length
    · rw [List.getElem?_append_left hj] at hy
      rw [List.take_append_of_le_length (by omega)]
      exact h.good j y hy
    · by_cases e : j = ord.length
      · subst e
        simp at hy; subst hy
        rw [List.take_append_of_le_length (by omega), List.take_length]
        exact hx
      · rw [List.getElem?_eq_none (by simp; omega)] at hy
        cases hy
  · rw [List.nodup_append]
    refine ⟨h.nodup, by simp, ?_⟩
    intro a ha b hb
    simp at hb; subst hb
    intro e; subst e; exact hx.1.2.1 ha
  · intro y hy
    rcases List.mem_append.1 hy with hy | hy
    · exact h.lt y hy
    · simp at hy; subst hy; exact hx.1.1
  · intro y hy
    have hs := left_snoc (n := n) (S := S) (U := U) ord x y hx.1.1 hx.1.2.1
    rcases List.mem_append.1 hy with hy | hy
    · have := h.zero y hy; omega
    · simp at hy; subst hy
      have := hx.1.2.2; omega

theorem next_unique {ord : List Nat} {x y : Nat} (hx : Next n S U ord x) (hy : Next n S U ord y) : x = y := by
  by_cases h1 : x < y
  · exact absurd hx.1 (hy.2 x h1)
  · by_cases h2 : y < x
    · exact absurd hy.1 (hx.2 y h2)
    · omega

theorem ok_prefix {a b : List Nat} (ha : Ok n S U a) (hb : Ok n S U b) : ∀ j, j ≤ a.length → j ≤ b.length → a.take j = b.take j := by
  intro j
  induction j with
  | zero => intros; simp
  | succ j ih =>
    intro h1 h2
    have ih := ih (by omega) (by omega)
    rw [List.take_succ_eq_append_getElem (by omega), List.take_succ_eq_append_getElem (by omega), ih]
    have e1 := ha.good j a[j] (List.getElem?_eq_getElem (by omega))
    have e2 := hb.good j b[j] (List.getElem?_eq_getElem (by omega))
    rw [ih] at e1
    rw [next_unique e1 e2]

theorem ok_le {a b : List Nat} (ha : Ok n S U a) (hb : Ok n S U b) (hend : ∀ x, ¬ Ready n S U a x) : b.length ≤ a.length := by
  by_cases h : b.length ≤ a.length
  · exact h
  · have hp := ok_prefix ha hb a.length (Nat.le_refl _) (by omega)
    rw [List.take_length] at hp
    have := hb.good a.length b[a.length] (List.getElem?_eq_getElem (by omega))
    rw [← hp] at this
    exact absurd this.1 (hend _)

theorem ok_eq {a b : List Nat} (ha : Ok n S U a) (hb : Ok n S U b) (enda : ∀ x, ¬ Ready n S U a x) (endb : ∀ x, ¬ Ready n S U b x) : a = b := by
  have h1 := ok_le ha hb enda
  have h2 := ok_le hb ha endb
  have := ok_prefix ha hb a.length (Nat.le_refl _) h2
  rw [List.take_length, List.take_of_length_le h1] at this
  exact this

end

theorem nodup_len : ∀ (n : Nat) (l : List Nat), l.Nodup → (∀ x, x ∈ l → x < n) → l.length ≤ n
  | 0, l, _, h => by
    cases l with
    | nil => simp
    | cons a l => have := h a (by simp); omega
  | n + 1, l, hd, h => by
    have hf : (l.filter (· ≠ n)).length ≤ n := nodup_len n _ (hd.filter _) (fun x hx => by
      rw [List.mem_filter] at hx
      have := h x hx.1
      have h2 : x ≠ n := by simpa using hx.2
      omega)
    have hc : l.count n ≤ 1 := List.nodup_iff_count.1 hd n
    have : l.length = (l.filter (· ≠ n)).length + l.count n := by
      clear hf hc hd h
      induction l with
      | nil => rfl
      | cons a l ih =>
        by_cases e : a = n
        · subst e; simp at ih ⊢; omega
        · simp [e] at ih ⊢; omega
    omega

theorem full_end {n : Nat} {S U : Nat → Nat} {b : List Nat} (hb : Ok n S U b) (hl : b.length = n) : ∀ x, ¬ Ready n S U b x := by
  intro x hx
  have := nodup_len n (x :: b) (List.nodup_cons.2 ⟨hx.2.1, hb.nodup⟩) (by
    intro y hy
    rcases List.mem_cons.1 hy with rfl | hy
    · exact hx.1
    · exact hb.lt y hy)
  simp at this; omega

theorem Ok.len {n : Nat} {S U : Nat → Nat} {b : List Nat} (hb : Ok n S U b) : b.length ≤ n := nodup_len n b hb.nodup hb.lt

theorem inj_len {n r : Nat} {f : Nat → Int} (hi : Inj f r) (h : ∀ i, i < r → 0 ≤ f i ∧ f i < n) : r ≤ n := by
  have := nodup_len n ((List.range r).map (fun i => (f i).toNat)) (by
    refine List.pairwise_iff_getElem.2 fun i j h1 h2 hij => ?_
    simp at h1 h2
    simp only [List.getElem_map, List.getElem_range]
    intro e
    have := hi i j (by omega) h2 (by have := h i (by omega); have := h j h2; omega)
    omega) (by
    intro x hx
    simp only [List.mem_map, List.mem_range] at hx
    obtain ⟨i, hi, rfl⟩ := hx
    have := h i hi; omega)
  simpa using this
end Go.Proofs.Qxb6612831a
