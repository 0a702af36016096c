import Derived.Test.Qxb6612959aRows
import Derived.WalkKit
import Derived.WalkSpells
import Derived.ProofKit
import Derived.ArgAppend
import Derived.BigQuiet
import Derived.BigRegion
import Derived.Deep.LoopGhost
namespace Go.Proofs.Qxb6612959a
open Go.RowKit

theorem hide {p : Prop} (h : p) : Hid p := h
theorem unhide {p : Prop} (h : Hid p) : p := h
theorem ret_bool {a b : Bool} (h : a = b) : Ending.returned (.bool a) = .returned (.bool b) := by rw [h]

/-- w' is w with new blocks, and with writes to the blocks of S alone. -/
structure Fr (S : List Nat) (w w' : World) : Prop where
  os : w'.os = w.os
  tape : w'.tape = w.tape
  output : w'.output = w.output
  size : w.heap.size ≤ w'.heap.size
  block : ∀ k, k < w.heap.size → k ∉ S → w'.heap[k]? = w.heap[k]?

theorem Fr.refl (S : List Nat) (w : World) : Fr S w w := ⟨rfl, rfl, rfl, Nat.le_refl _, fun _ _ _ => rfl⟩

theorem Fr.trans {S T : List Nat} {a b c : World} (h : Fr S a b) (k : Fr T b c) (hT : ∀ i, i ∈ T → i ∈ S ∨ a.heap.size ≤ i) : Fr S a c :=
  ⟨k.os.trans h.os, k.tape.trans h.tape, k.output.trans h.output, Nat.le_trans h.size k.size, fun i hi hS =>
    (k.block i (Nat.lt_of_lt_of_le hi h.size) (fun hm => by rcases hT i hm with h1 | h1; exact hS h1; omega)).trans (h.block i hi hS)⟩

theorem Fr.trans' {S : List Nat} {a b c : World} (h : Fr S a b) (k : Fr S b c) : Fr S a c := h.trans k fun _ hi => .inl hi

theorem Fr.mono {S T : List Nat} {a b : World} (h : Fr S a b) (hT : ∀ i, i ∈ S → i ∈ T) : Fr T a b :=
  ⟨h.os, h.tape, h.output, h.size, fun k hk hS => h.block k hk fun hm => hS (hT k hm)⟩

theorem Fr.alloc {S : List Nat} {a w : World} (h : Fr S a w) (o : Obj) : Fr S a (w.alloc o) :=
  h.trans' ⟨rfl, rfl, rfl, by simp, fun k hk _ => Below.heap_alloc _ _ _ hk⟩

theorem Fr.setCell {S : List Nat} {a w : World} (h : Fr S a w) {p : Addr} (hp : p.block ∈ S ∨ a.heap.size ≤ p.block) (u : Value) : Fr S a (w.setCell p u) :=
  h.trans (T := [p.block]) ⟨rfl, rfl, rfl, by simp [World.setCell], fun k _ hk => Below.heap_setCell _ _ _ _ (by simpa using hk)⟩ (by simpa using hp)

theorem Fr.drewN {S : List Nat} {a w : World} (h : Fr S a w) (n : Nat) : Fr S a (w.drewN n) := ⟨h.os, h.tape, h.output, h.size, h.block⟩
theorem Fr.drew {S : List Nat} {a w : World} (h : Fr S a w) : Fr S a w.drew := ⟨h.os, h.tape, h.output, h.size, h.block⟩

theorem Fr.grown {w w' : World} {row : Option Nat} (hg : w.grownBy w' row) : Fr row.toList w w' :=
  ⟨hg.os, hg.tape, hg.output, hg.size, fun k hk hS => hg.block k hk (fun e => hS (by rw [← e]; simp))⟩

theorem Fr.below {B : Nat} {S : List Nat} {w w' : World} (h : Fr S w w') (hB : B ≤ w.heap.size) (hS : ∀ i, i ∈ S → B ≤ i) : Below B w w' :=
  ⟨h.os, h.tape, h.output, h.size, fun k hk => h.block k (by omega) (fun hm => by have := hS k hm; omega)⟩

theorem Fr.ofBelow {w w' : World} (h : Below w.heap.size w w') : Fr [] w w' := ⟨h.os, h.tape, h.output, h.size, fun k hk _ => h.block k hk⟩

theorem Fr.cell {S : List Nat} {w w' : World} (h : Fr S w w') {b o : Nat} {v : Value} (hc : w.cell? ⟨b, o, none⟩ = some v) (hb : b ∉ S) : w'.cell? ⟨b, o, none⟩ = some v := by
  by_cases hlt : b < w.heap.size
  · rw [World.cell?_of_block (w := w) (h.block b hlt hb)]; exact hc
  · rw [World.cell?] at hc
    simp [Array.getElem?_eq_none (Nat.not_lt.1 hlt)] at hc

theorem cell_lt {w : World} {b o : Nat} {v : Value} (hc : w.cell? ⟨b, o, none⟩ = some v) : b < w.heap.size := by
  by_cases hlt : b < w.heap.size
  · exact hlt
  · rw [World.cell?] at hc
    simp [Array.getElem?_eq_none (Nat.not_lt.1 hlt)] at hc

/-- The store f i := v. -/
def upd (f : Nat → Value) (i : Nat) (v : Value) : Nat → Value := fun j => if j = i then v else f j

/-- Block b is a row of 'cap' cells of type ty, not frozen, whose first n cells hold f. -/
def Arr (w : World) (b : Nat) (ty : TypeId) (n cap : Nat) (f : Nat → Value) : Prop :=
  ∃ cur : Array Value, w.heap[b]? = some (.cells cur ty (0, 0)) ∧ cur.size = cap ∧ n ≤ cap ∧ cap ≤ maxLen ∧ ∀ i, i < n → cur[i]? = some (f i)

theorem Arr.cell {w : World} {b : Nat} {ty : TypeId} {n cap : Nat} {f : Nat → Value} (h : Arr w b ty n cap f) {i : Nat} (hi : i < n) : w.cell? ⟨b, i, none⟩ = some (f i) := by
  obtain ⟨cur, hb, _, _, _, hf⟩ := h
  rw [cell_of_row w b i cur ty (0, 0) hb]; exact hf i hi

theorem Arr.isS {w : World} {b : Nat} {ty : TypeId} {n cap : Nat} {f : Nat → Value} (h : Arr w b ty n cap f) {i : Nat} (hi : i < cap) : (w.cell? ⟨b, i, none⟩).isSome = true := by
  obtain ⟨cur, hb, hc, _, _, hf⟩ := h
  rw [cell_of_row w b i cur ty (0, 0) hb]
  rw [Array.getElem?_eq_getElem (by omega)]; rfl

theorem Arr.free {w : World} {b : Nat} {ty : TypeId} {n cap : Nat} {f : Nat → Value} (h : Arr w b ty n cap f) (i : Nat) : w.frozen? ⟨b, i, none⟩ = false := by
  obtain ⟨cur, hb, _⟩ := h
  exact frozen_of_row w b i cur ty hb

theorem Arr.lt {w : World} {b : Nat} {ty : TypeId} {n cap : Nat} {f : Nat → Value} (h : Arr w b ty n cap f) : b < w.heap.size := by
  obtain ⟨cur, hb, _⟩ := h
  exact (Array.getElem?_eq_some_iff.1 hb).1

theorem Arr.le {w : World} {b : Nat} {ty : TypeId} {n cap : Nat} {f : Nat → Value} (h : Arr w b ty n cap f) : n ≤ cap := by
  obtain ⟨cur, _, _, h, _⟩ := h; exact h

theorem Arr.capLe {w : World} {b : Nat} {ty : TypeId} {n cap : Nat} {f : Nat → Value} (h : Arr w b ty n cap f) : cap ≤ maxLen := by
  obtain ⟨cur, _, _, _, h, _⟩ := h; exact h

theorem Arr.kept {S : List Nat} {w w' : World} {b : Nat} {ty : TypeId} {n cap : Nat} {f : Nat → Value} (h : Arr w b ty n cap f) (hF : Fr S w w') (hb : b ∉ S) : Arr w' b ty n cap f := by
  have hl := h.lt
  obtain ⟨cur, h0, h1⟩ := h
  exact ⟨cur, (hF.block b hl hb).trans h0, h1⟩

theorem Arr.set {w : World} {b : Nat} {ty : TypeId} {n cap : Nat} {f : Nat → Value} (h : Arr w b ty n cap f) {i : Nat} (hi : i < cap) (v : Value) : Arr (w.setCell ⟨b, i, none⟩ v) b ty n cap (upd f i v) := by
  obtain ⟨cur, hb, hc, hn, hm, hf⟩ := h
  refine ⟨cur.setIfInBounds i v, heap_setCell_same w b i cur ty v hb, by simpa using hc, hn, hm, fun j hj => ?_⟩
  unfold upd
  rw [Array.getElem?_setIfInBounds]
  by_cases e : i = j
  · subst e; rw [if_pos rfl, if_pos (by omega), if_pos rfl]
  · rw [if_neg e, if_neg (fun x => e x.symm)]; exact hf j hj

theorem Arr.setAny {w : World} {b : Nat} {ty : TypeId} {n cap : Nat} {f : Nat → Value} (h : Arr w b ty n cap f) {p : Addr} (hp : p.block ≠ b) (v : Value) : Arr (w.setCell p v) b ty n cap f :=
  h.kept (S := [p.block]) ((Fr.refl _ _).setCell (by simp) v) (by simpa using fun e => hp e.symm)

theorem Arr.alloc {w : World} {b : Nat} {ty : TypeId} {n cap : Nat} {f : Nat → Value} (h : Arr w b ty n cap f) (o : Obj) : Arr (w.alloc o) b ty n cap f :=
  h.kept (S := []) ((Fr.refl _ _).alloc o) (by simp)

theorem Arr.drewN {w : World} {b : Nat} {ty : TypeId} {n cap : Nat} {f : Nat → Value} (h : Arr w b ty n cap f) (k : Nat) : Arr (w.drewN k) b ty n cap f := h

theorem Arr.congr {w : World} {b : Nat} {ty : TypeId} {n cap : Nat} {f g : Nat → Value} (h : Arr w b ty n cap f) (hfg : ∀ i, i < n → f i = g i) : Arr w b ty n cap g := by
  obtain ⟨cur, hb, hc, hn, hm, hf⟩ := h
  exact ⟨cur, hb, hc, hn, hm, fun j hj => by rw [← hfg j hj]; exact hf j hj⟩

theorem Arr.less {w : World} {b : Nat} {ty : TypeId} {n m cap : Nat} {f : Nat → Value} (h : Arr w b ty n cap f) (hm : m ≤ n) : Arr w b ty m cap f := by
  obtain ⟨cur, hb, hc, hn, hx, hf⟩ := h
  exact ⟨cur, hb, hc, by omega, hx, fun j hj => hf j (by omega)⟩

theorem Arr.ofOwn {w : World} {base : Nat} {ty : TypeId} {v : Value} {n : Nat} {xs : List Value} (h : w.ownsRow base ty 1 v n xs) (hn : 0 < n) :
    ∃ g cap, v = .slice (some ⟨g, 0, none⟩) n cap ∧ base ≤ g ∧ Arr w g ty n cap (fun i => xs.getD i default) := by
  obtain ⟨hl, h⟩ := h
  rcases h with ⟨_, h⟩ | ⟨g, cap, cur, hv, hb, hg, hnc, hm, hs, ht⟩
  · omega
  · refine ⟨g, cap, hv, hb, cur, hg, by omega, hnc, hm, fun i hi => ?_⟩
    rw [← ht]
    have : i < cur.size := by omega
    simp [hi, this]

theorem made_at (z : Value) (n i : Nat) (hi : i < n) : (madeCells #[z] n)[i]? = some z := by
  unfold madeCells
  simp [hi, Nat.mod_one]

/-- 'make([]T, n)' lays such a row. -/
theorem Arr.ofAlloc {w : World} {ty : TypeId} {n : Nat} {z : Value} (hn : n ≤ maxLen) : Arr (w.alloc (.cells (madeCells #[z] n) ty)) w.heap.size ty n n (fun _ => z) :=
  ⟨_, heap_alloc_new w _, size_madeCells _ _, Nat.le_refl _, hn, fun i hi => made_at z n i hi⟩

theorem Arr.own {w : World} {b : Nat} {ty : TypeId} {n cap : Nat} {f : Nat → Value} (h : Arr w b ty n cap f) : w.ownsRow 0 ty 1 (.slice (some ⟨b, 0, none⟩) n cap) n ((List.range n).map f) := by
  obtain ⟨cur, hb, hc, hn, hm, hf⟩ := h
  refine ⟨by simp, .inr ⟨b, cap, cur, rfl, Nat.zero_le _, hb, hn, hm, by omega, ?_⟩⟩
  apply List.ext_getElem?
  intro i
  by_cases hi : i < n
  · have := hf i hi
    simp [hi, this]
  · simp [hi]; omega

/-- v is a slice of n cells that hold f: nil, or a row of its own. -/
def Vec (w : World) (v : Value) (ty : TypeId) (n : Nat) (f : Nat → Value) : Prop :=
  (v = .slice none 0 0 ∧ n = 0) ∨ ∃ g cap, v = .slice (some ⟨g, 0, none⟩) n cap ∧ Arr w g ty n cap f

theorem Vec.kept {S : List Nat} {w w' : World} {v : Value} {ty : TypeId} {n : Nat} {f : Nat → Value} (h : Vec w v ty n f) (hF : Fr S w w') (hb : ∀ g, v.ownBlock = some g → g ∉ S) : Vec w' v ty n f := by
  rcases h with h | ⟨g, cap, rfl, h⟩
  · exact .inl h
  · exact .inr ⟨g, cap, rfl, h.kept hF (hb g rfl)⟩

/-- 'append(v, u)'. -/
theorem wpList_app1 {P : Program} (w : World) {ops : Array Oper} {rest : List Oper} {o : Oper} {a : Act} {Q : Exit → Act → World → Prop}
    (hg : o.guard = none) (s x : Operand) (t : TypeId) (hop : o.op = Op.call { callee := Callee.builtin Builtin.append, args := #[s, x], argTypes := #[t, t] })
    (e : TypeId) (z : Value) (bytes : Nat) (h1 : P.underlying t = some (.slice e)) (hinfo : (P.info? e).map (fun i => (i.zero, i.size, i.bytes)) = some (some z, 1, bytes)) (h6 : z.cells.size = 1)
    (n : Nat) (f : Nat → Value) (v : Value) (hs : a.eval s = v) (hv : Vec w v e n f)
    (ad : Addr) (u : Value) (hx : a.eval x = .slice (some ad) 1 1) (hc : w.cell? ad = some u) (hu : u.oneCell' = true) (hsp : ad.spot = none)
    (b1 : n + 1 ≤ maxLen) (b2 : (n + 1) * bytes ≤ 140737488355328)
    (hK : ∀ g' cap' w', Arr w' g' e (n + 1) cap' (upd f n u) → Fr v.ownBlock.toList w w' → (v.ownBlock = some g' ∨ w.heap.size ≤ g') → wpList P ops Q rest (a.put o.dst (.slice (some ⟨g', 0, none⟩) (n + 1) cap')) w') :
    wpList P ops Q (o :: rest) a w := by
  obtain ⟨i, hi, hz, hsz, hby⟩ := info_parts hinfo
  have hnews : ∀ (j : Nat) (y : Value), [u][j]? = some y → w.cell? (ad.add j) = some y := by
    intro j y hj
    match j, hj with
    | 0, hj =>
      simp at hj; subst hj
      obtain ⟨b, off, sp⟩ := ad
      simp only at hsp
      subst hsp
      simpa [Addr.add] using hc
  have hone : ∀ y ∈ [u], y.oneCell' = true := by intro y hy; simp at hy; subst hy; exact hu
  rcases hv with ⟨rfl, rfl⟩ | ⟨g, cap, rfl, hA⟩
  · refine wpList_append_grows w hg s x t hop e i z 1 bytes h1 hi hz hsz hby h6 (by decide) none 0 0 [] hs (fun _ => ⟨rfl, rfl⟩) rfl (fun b hb => by cases hb) ad 1 1 [u] hx rfl hnews hone (by decide) b1 b2 ?_
    intro v' w' hown hgr
    obtain ⟨g', cap', rfl, hge, hA⟩ := Arr.ofOwn hown (by decide)
    exact hK g' cap' w' (hA.congr fun j hj => by have : j = 0 := by omega
                                                 subst this; simp [upd]) (Fr.grown hgr) (.inr hge)
  · have hle := hA.le
    refine wpList_append_arg w hg s x t hop e i z 1 bytes h1 hi hz hsz hby h6 (by decide) g 0 n cap ((List.range n).map f) hs (by simp) ?_ ad 1 1 [u] hx rfl hnews hone ?_ b1 b2 ?_ ?_
    · intro j y hj
      by_cases hjn : j < n
      · simp [hjn] at hj; subst hj
        simpa using hA.cell hjn
      · simp [hjn] at hj
    · intro hroom j hj
      have hj0 : j = 0 := by simpa using hj
      subst hj0
      exact ⟨by simpa using hA.isS (i := n) (by omega), by simpa using hA.free n⟩
    · intro hroom
      refine hK g cap _ ?_ ?_ (.inl rfl)
      · have hset := hA.set (i := n) (by omega) u
        have he : w.setCells g (0 + n * 1) [u] = w.setCell ⟨g, n, none⟩ u := by simp [World.setCells]
        rw [he]
        obtain ⟨cur, q1, q2, q3, q4, q5⟩ := hset
        refine ⟨cur, q1, q2, hroom, q4, fun j hj => ?_⟩
        by_cases hjn : j < n
        · exact q5 j hjn
        · have hjn : j = n := by omega
          subst hjn
          obtain ⟨cur0, p1, p2, _⟩ := hA
          have := heap_setCell_same w g j cur0 e u p1
          rw [this] at q1
          simp only [Option.some.injEq, Obj.cells.injEq, and_true] at q1
          rw [← q1, Array.getElem?_setIfInBounds, if_pos rfl, if_pos (by omega)]
          simp [upd]
      · have he : w.setCells g (0 + n * 1) [u] = w.setCell ⟨g, n, none⟩ u := by simp [World.setCells]
        rw [he]
        exact (Fr.refl _ _).setCell (by simp [Value.ownBlock]) u
    · intro hfull v' w' hown hgr
      obtain ⟨g', cap', rfl, hge, hA'⟩ := Arr.ofOwn hown (by omega)
      refine hK g' cap' w' (hA'.congr fun j hj => ?_) ((Fr.grown hgr).mono (by simp)) (.inr hge)
      unfold upd
      by_cases hjn : j < n
      · rw [if_neg (by omega), List.getD_eq_getElem?_getD, List.getElem?_append_left (by simpa using hjn)]
        simp [hjn]
      · have : j = n := by omega
        subst this
        simp

/-- A slice that is read: nil where its address is; where it has an element, its cells. -/
def Sl (w : World) (a : Option Addr) (n cap : Nat) (f : Nat → Value) : Prop :=
  n ≤ cap ∧ cap ≤ maxLen ∧ (a = none → n = 0 ∧ cap = 0) ∧ (0 < n → ∃ b off, a = some ⟨b, off, none⟩ ∧ ∀ i, i < n → w.cell? ⟨b, off + i, none⟩ = some (f i))

theorem Sl.kept {w w' : World} {a : Option Addr} {n cap : Nat} {f : Nat → Value} (h : Sl w a n cap f) (hF : Below w.heap.size w w') : Sl w' a n cap f := by
  refine ⟨h.1, h.2.1, h.2.2.1, fun hn => ?_⟩
  obtain ⟨b, off, rfl, hc⟩ := h.2.2.2 hn
  refine ⟨b, off, rfl, fun i hi => ?_⟩
  rw [hF.cell (p := ⟨b, off + i, none⟩) (cell_lt (hc i hi))]
  exact hc i hi

theorem Sl.kept' {B : Nat} {w w' : World} {a : Option Addr} {n cap : Nat} {f : Nat → Value} (h : Sl w a n cap f) (hF : Below B w w') (hB : ∀ x, a = some x → x.block < B) : Sl w' a n cap f := by
  refine ⟨h.1, h.2.1, h.2.2.1, fun hn => ?_⟩
  obtain ⟨b, off, rfl, hc⟩ := h.2.2.2 hn
  refine ⟨b, off, rfl, fun i hi => ?_⟩
  rw [hF.cell (p := ⟨b, off + i, none⟩) (hB ⟨b, off, none⟩ rfl)]
  exact hc i hi

theorem Vec.sl {w : World} {a : Option Addr} {n cap : Nat} {ty : TypeId} {f : Nat → Value} (h : Vec w (.slice a n cap) ty n f) : Sl w a n cap f := by
  rcases h with ⟨h, rfl⟩ | ⟨g, c, h, hA⟩
  · simp only [Value.slice.injEq] at h
    obtain ⟨rfl, _, rfl⟩ := h
    exact ⟨Nat.le_refl _, Nat.zero_le _, fun _ => ⟨rfl, rfl⟩, fun h => by omega⟩
  · simp only [Value.slice.injEq, true_and] at h
    obtain ⟨rfl, rfl⟩ := h
    exact ⟨hA.le, hA.capLe, fun h => (by cases h), fun _ => ⟨g, 0, rfl, fun i hi => by rw [Nat.zero_add]; exact hA.cell hi⟩⟩

end Go.Proofs.Qxb6612959a
