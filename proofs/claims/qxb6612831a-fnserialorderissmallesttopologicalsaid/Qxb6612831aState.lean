import Derived.Test.Qxb6612831aGraph
import Derived.Test.Qxb6612831aKahn
namespace Go.Proofs.Qxb6612831a
open Go.RowKit
set_option linter.unusedVariables false

def Ord32 (ord : List Nat) : Nat → Value := fun i => .int .i32 (ord.getD i 0 : Nat)

/-- The counts at block B, the variable 'ready' at block RB, its heap. -/
structure KSt (w wr : World) (B RB n : Nat) (va : Option Addr) (r vc : Nat) (f p : Nat → Int) : Prop where
  bB : w.heap.size ≤ B
  bR : w.heap.size ≤ RB
  neBR : B ≠ RB
  preds : Arr wr B 21 n n (V32 p)
  rv : Arr wr RB 54 1 1 (fun _ => .slice va r vc)
  hv : Vec wr (.slice va r vc) 21 r (V32 f)
  bel : Below w.heap.size w wr
  va_ok : ∀ x, va = some x → x.block ≠ B ∧ x.block ≠ RB ∧ w.heap.size ≤ x.block

/-- The row 'order' at block ob. -/
structure OSt (base : Nat) (wr : World) (B RB : Nat) (va : Option Addr) (ord : List Nat) (ob oc : Nat) : Prop where
  arr : Arr wr ob 21 ord.length oc (Ord32 ord)
  ne1 : ob ≠ B
  ne2 : ob ≠ RB
  ne3 : ∀ x, va = some x → x.block ≠ ob
  ge : base ≤ ob

section
variable {w wr w1 : World} {B RB n : Nat} {va : Option Addr} {r vc : Nat} {f p : Nat → Int}

theorem own_slice (va : Option Addr) (r vc : Nat) : (Value.slice va r vc).ownBlock = va.map (·.block) := by cases va <;> rfl

theorem mem_own {va : Option Addr} {r vc i : Nat} (h : i ∈ (Value.slice va r vc).ownBlock.toList) : ∃ x, va = some x ∧ x.block = i := by
  rw [own_slice] at h
  cases va with
  | none => simp at h
  | some x => simp at h; exact ⟨x, rfl, h.symm⟩

theorem KSt.drewN (h : KSt w wr B RB n va r vc f p) (k : Nat) : KSt w (wr.drewN k) B RB n va r vc f p :=
  ⟨h.bB, h.bR, h.neBR, h.preds, h.rv, h.hv, ⟨h.bel.os, h.bel.tape, h.bel.output, h.bel.size, h.bel.block⟩, h.va_ok⟩

theorem OSt.drewN {base : Nat} {ord : List Nat} {ob oc : Nat} (h : OSt base wr B RB va ord ob oc) (k : Nat) : OSt base (wr.drewN k) B RB va ord ob oc :=
  ⟨h.arr, h.ne1, h.ne2, h.ne3, h.ge⟩

theorem Vec.lt {w : World} {v : Value} {ty : TypeId} {n : Nat} {f : Nat → Value} (h : Vec w v ty n f) {g : Nat} (hg : v.ownBlock = some g) : g < w.heap.size := by
  rcases h with ⟨rfl, _⟩ | ⟨g', cap, rfl, hA⟩
  · cases hg
  · simp only [Value.ownBlock, Option.some.injEq] at hg
    subst hg; exact hA.lt

/-- Behind writes to blocks that are none of these. -/
theorem KSt.kept {S : List Nat} (h : KSt w wr B RB n va r vc f p) (hF : Fr S wr w1) (hB : B ∉ S) (hR : RB ∉ S) (hv : ∀ x, va = some x → x.block ∉ S) (hS : ∀ i, i ∈ S → w.heap.size ≤ i) : KSt w w1 B RB n va r vc f p :=
  ⟨h.bB, h.bR, h.neBR, h.preds.kept hF hB, h.rv.kept hF hR, h.hv.kept hF (fun g hg => by
    rw [own_slice] at hg
    cases va with
    | none => simp at hg
    | some x => simp at hg; subst hg; exact hv x rfl), h.bel.trans (hF.below h.bel.size hS), h.va_ok⟩

theorem OSt.kept {base : Nat} {ord : List Nat} {ob oc : Nat} {S : List Nat} (h : OSt base wr B RB va ord ob oc) (hF : Fr S wr w1) (ho : ob ∉ S) : OSt base w1 B RB va ord ob oc :=
  ⟨h.arr.kept hF ho, h.ne1, h.ne2, h.ne3, h.ge⟩

/-- 'ready = append(ready, x)' behind the law, and the store. -/
theorem KSt.app {g' cap' : Nat} {x : Int} {o : Obj} (h : KSt w wr B RB n va r vc f p) (hA : Arr w1 g' 21 (r + 1) cap' (upd (V32 f) r (.int .i32 x))) (hF : Fr (Value.slice va r vc).ownBlock.toList (wr.alloc o) w1)
    (hwh : (Value.slice va r vc).ownBlock = some g' ∨ (wr.alloc o).heap.size ≤ g') :
    KSt w (w1.setCell ⟨RB, 0, none⟩ (.slice (some ⟨g', 0, none⟩) (r + 1) cap')) B RB n (some ⟨g', 0, none⟩) (r + 1) cap' (putn f r x) p := by
  have hF' : Fr (Value.slice va r vc).ownBlock.toList wr w1 := ((Fr.refl _ _).alloc o).trans' hF
  have hlt := h.preds.lt
  have hlr := h.rv.lt
  have hsz : (wr.alloc o).heap.size = wr.heap.size + 1 := by simp
  have hg : g' ≠ B ∧ g' ≠ RB ∧ w.heap.size ≤ g' := by
    rcases hwh with h1 | h1
    · obtain ⟨y, hy, he⟩ := mem_own (i := g') (va := va) (r := r) (vc := vc) (by rw [h1]; simp)
      have := h.va_ok y hy
      rw [he] at this; exact this
    · have := h.bel.size; omega
  have hnB : B ∉ (Value.slice va r vc).ownBlock.toList := fun hm => by
    obtain ⟨y, hy, he⟩ := mem_own hm
    exact (h.va_ok y hy).1 he
  have hnR : RB ∉ (Value.slice va r vc).ownBlock.toList := fun hm => by
    obtain ⟨y, hy, he⟩ := mem_own hm
    exact (h.va_ok y hy).2.1 he
  rw [V32_upd] at hA
  refine ⟨h.bB, h.bR, h.neBR, (h.preds.kept hF' hnB).setAny (fun e => h.neBR e.symm) _, ((h.rv.kept hF' hnR).set (i := 0) (by omega) _).congr (fun i hi => ?_), .inr ⟨g', cap', rfl, hA.setAny (fun e => hg.2.1 e.symm) _⟩,
    (h.bel.trans (hF'.below h.bel.size fun i hi => ?_)).setCell h.bR _, fun y hy => ?_⟩
  · have : i = 0 := by omega
    subst this; simp [upd]
  · obtain ⟨y, hy, he⟩ := mem_own hi
    have := (h.va_ok y hy).2.2; omega
  · simp at hy; subst hy; exact hg

theorem KSt.pop {g : Nat} {w2 : World} (h : KSt w wr B RB n (some ⟨g, 0, none⟩) (r + 1) vc f p) (hp : PopPost RB g r vc f wr w2) : ∃ f', KSt w w2 B RB n (some ⟨g, 0, none⟩) r vc f' p ∧ IsHeap f' r ∧ Same (put0 f (f r)) f' r ∧ Fr [RB, g] wr w2 := by
  obtain ⟨f', h1, h2, h3, h4, h5⟩ := hp
  have hg := h.va_ok _ rfl
  refine ⟨f', ⟨h.bB, h.bR, h.neBR, h.preds.kept h5 (by simp; exact ⟨h.neBR, fun e => hg.1 e.symm⟩), h1, .inr ⟨g, vc, rfl, h2⟩, h.bel.trans (h5.below h.bel.size (by simp; exact ⟨h.bR, hg.2.2⟩)), h.va_ok⟩, h3, h4, h5⟩

theorem KSt.push {x : Int} {w2 : World} {g' cap' : Nat} {f' : Nat → Int} (h : KSt w wr B RB n va r vc f p) (hp : PushPost RB r f x (.slice va r vc) wr w2 g' cap' f') : KSt w w2 B RB n (some ⟨g', 0, none⟩) (r + 1) cap' f' p := by
  have hlt := h.preds.lt
  have hg : g' ≠ B ∧ g' ≠ RB ∧ w.heap.size ≤ g' := by
    rcases hp.wh with h1 | h1
    · obtain ⟨y, hy, he⟩ := mem_own (i := g') (va := va) (r := r) (vc := vc) (by rw [h1]; simp)
      have := h.va_ok y hy
      rw [he] at this; exact this
    · have := h.bel.size; exact ⟨by omega, hp.ne, by omega⟩
  refine ⟨h.bB, h.bR, h.neBR, h.preds.kept hp.fr ?_, hp.var, .inr ⟨g', cap', rfl, hp.arr⟩, h.bel.trans (hp.fr.below h.bel.size ?_), ?_⟩
  · intro hm
    rcases List.mem_cons.1 hm with e | hm
    · exact h.neBR e
    · obtain ⟨y, hy, he⟩ := mem_own hm
      exact (h.va_ok y hy).1 he
  · intro i hi
    rcases List.mem_cons.1 hi with e | hm
    · rw [e]; exact h.bR
    · obtain ⟨y, hy, he⟩ := mem_own hm
      rw [← he]; exact (h.va_ok y hy).2.2
  · intro y hy
    simp at hy; subst hy; exact hg

theorem OSt.pop {base : Nat} {ord : List Nat} {ob oc g : Nat} {w2 : World} (h : OSt base wr B RB (some ⟨g, 0, none⟩) ord ob oc) (hF : Fr [RB, g] wr w2) : OSt base w2 B RB (some ⟨g, 0, none⟩) ord ob oc :=
  h.kept hF (by simp; exact ⟨h.ne2, fun e => h.ne3 _ rfl e.symm⟩)

theorem OSt.push {base : Nat} {ord : List Nat} {ob oc : Nat} {x : Int} {w2 : World} {g' cap' : Nat} {f' : Nat → Int} (h : OSt base wr B RB va ord ob oc) (hp : PushPost RB r f x (.slice va r vc) wr w2 g' cap' f') : OSt base w2 B RB (some ⟨g', 0, none⟩) ord ob oc := by
  have hlt := h.arr.lt
  have h2 := h.kept hp.fr (by
    intro hm
    rcases List.mem_cons.1 hm with e | hm
    · exact h.ne2 e
    · obtain ⟨y, hy, he⟩ := mem_own hm
      exact h.ne3 y hy he)
  refine ⟨h2.arr, h.ne1, h.ne2, fun y hy => ?_, h.ge⟩
  simp at hy; subst hy
  rcases hp.wh with h1 | h1
  · obtain ⟨y, hy, he⟩ := mem_own (i := g') (va := va) (r := r) (vc := vc) (by rw [h1]; simp)
    show g' ≠ ob
    rw [← he]; exact h.ne3 y hy
  · show g' ≠ ob
    omega

theorem upd_ord (ord : List Nat) (v : Nat) : upd (Ord32 ord) ord.length (.int .i32 v) = fun i => if i < ord.length + 1 then Ord32 (ord ++ [v]) i else upd (Ord32 ord) ord.length (.int .i32 v) i := by
  funext i
  unfold upd Ord32
  by_cases h : i = ord.length
  · subst h; simp
  · by_cases h2 : i < ord.length
    · have h3 : i < ord.length + 1 := by omega
      rw [if_neg h, if_pos h3, List.getD_eq_getElem?_getD, List.getD_eq_getElem?_getD, List.getElem?_append_left h2]
    · have h3 : ¬ i < ord.length + 1 := by omega
      rw [if_neg h, if_neg h3]

/-- 'order = append(order, v)' behind the law. -/
theorem OSt.app {base : Nat} {ord : List Nat} {ob oc v g' cap' : Nat} {o : Obj} (hk : KSt w wr B RB n va r vc f p) (hb : base ≤ wr.heap.size) (h : OSt base wr B RB va ord ob oc)
    (hA : Arr w1 g' 21 (ord.length + 1) cap' (upd (Ord32 ord) ord.length (.int .i32 v))) (hF : Fr (Value.slice (some ⟨ob, 0, none⟩) ord.length oc).ownBlock.toList (wr.alloc o) w1)
    (hwh : (Value.slice (some ⟨ob, 0, none⟩) ord.length oc).ownBlock = some g' ∨ (wr.alloc o).heap.size ≤ g') (hob : w.heap.size ≤ ob) :
    KSt w w1 B RB n va r vc f p ∧ OSt base w1 B RB va (ord ++ [v]) g' cap' := by
  have hF' : Fr [ob] wr w1 := ((Fr.refl _ _).alloc o).trans' hF
  have hsz : (wr.alloc o).heap.size = wr.heap.size + 1 := by simp
  have hlt := hk.preds.lt
  have hlr := hk.rv.lt
  refine ⟨hk.kept hF' (by simpa using fun e => h.ne1 e.symm) (by simpa using fun e => h.ne2 e.symm) (fun x hx => by simpa using h.ne3 x hx) (by simpa using hob), ⟨?_, ?_, ?_, ?_, ?_⟩⟩
  · rw [List.length_append, List.length_singleton]
    refine hA.congr fun i hi => ?_
    rw [upd_ord]
    show (if i < ord.length + 1 then _ else _) = _
    rw [if_pos hi]
  · rcases hwh with h1 | h1
    · simp only [Value.ownBlock, Option.some.injEq] at h1; subst h1; exact h.ne1
    · omega
  · rcases hwh with h1 | h1
    · simp only [Value.ownBlock, Option.some.injEq] at h1; subst h1; exact h.ne2
    · omega
  · intro x hx
    rcases hwh with h1 | h1
    · simp only [Value.ownBlock, Option.some.injEq] at h1; subst h1; exact h.ne3 x hx
    · have := hk.hv.lt (g := x.block) (by rw [own_slice, hx]; rfl)
      omega
  · rcases hwh with h1 | h1
    · simp only [Value.ownBlock, Option.some.injEq] at h1; subst h1; exact h.ge
    · omega

/-- a count is stored. -/
theorem KSt.store {i : Nat} (h : KSt w wr B RB n va r vc f p) (hi : i < n) (x : Int) : KSt w (wr.setCell ⟨B, i, none⟩ (.int .i32 x)) B RB n va r vc f (fun j => if j = i then x else p j) := by
  have hF : Fr [B] wr (wr.setCell ⟨B, i, none⟩ (.int .i32 x)) := (Fr.refl _ _).setCell (by simp) _
  refine ⟨h.bB, h.bR, h.neBR, ?_, h.rv.setAny h.neBR _, h.hv.kept hF (fun g hg => ?_), h.bel.setCell h.bB _, h.va_ok⟩
  · have := h.preds.set hi (.int .i32 x)
    rw [V32_upd] at this; exact this
  · obtain ⟨y, hy, he⟩ := mem_own (i := g) (va := va) (r := r) (vc := vc) (by rw [hg]; simp)
    have := (h.va_ok y hy).1
    simp; omega

theorem OSt.store {base : Nat} {ord : List Nat} {ob oc : Nat} (h : OSt base wr B RB va ord ob oc) (i : Nat) (x : Value) : OSt base (wr.setCell ⟨B, i, none⟩ x) B RB va ord ob oc :=
  ⟨h.arr.setAny (fun e => h.ne1 e.symm) _, h.ne1, h.ne2, h.ne3, h.ge⟩

end
end Go.Proofs.Qxb6612831a
