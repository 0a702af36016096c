import Derived.Test.Qxb6612831aState
namespace Go.Proofs.Qxb6612831a
open Go.RowKit
set_option linter.unusedVariables false

def lenOfV : Value → Nat | .slice _ n _ => n | _ => 0

/-- The graph in memory: n nodes, m edges. -/
structure InG (w : World) (gb : Nat) (a0 : Option Addr) (n c0 g1 c1 : Nat) (a2 : Option Addr) (m c2 : Nat) (S U : Nat → Nat) : Prop where
  gr : Gr n m S U
  at_ : GraphAt w gb a0 n c0 (some ⟨g1, 0, none⟩) (n + 1) c1 a2 m c2
  st : ∀ i, i ≤ n → w.cell? ⟨g1, i, none⟩ = some (.int .i64 (S i))
  su : Vec w (.slice a2 m c2) 21 m (fun k => .int .i32 (U k))
  hn : n ≤ 1024
  hm : m ≤ 4096

theorem InG.kept {w w' : World} {gb : Nat} {a0 : Option Addr} {n c0 g1 c1 : Nat} {a2 : Option Addr} {m c2 : Nat} {S U : Nat → Nat} (h : InG w gb a0 n c0 g1 c1 a2 m c2 S U) (hB : Below w.heap.size w w') : InG w' gb a0 n c0 g1 c1 a2 m c2 S U :=
  ⟨h.gr, h.at_.kept hB (cell_lt h.at_.txns), fun i hi => (hB.cell (p := ⟨g1, i, none⟩) (cell_lt (h.st i hi))).trans (h.st i hi), h.su.kept (Fr.ofBelow hB) (by simp), h.hn, h.hm⟩

/-- What smallestOrder hands back. -/
def SmallPost (n : Nat) (S U : Nat → Nat) (w : World) (e : Ending) (w' : World) : Prop :=
  ∃ ord, Ok n S U ord ∧ (∀ x, ¬ Ready n S U ord x) ∧ Below w.heap.size w w' ∧
    ((ord.length < n ∧ e = .returned (.tuple #[.slice none 0 0, .bool false])) ∨
     (ord.length = n ∧ ∃ ob oc, e = .returned (.tuple #[.slice (some ⟨ob, 0, none⟩) n oc, .bool true]) ∧ Arr w' ob 21 n oc (Ord32 ord) ∧ w.heap.size ≤ ob))

/-- the first k counts looked at: the heap is a sorted row. -/
def Init2 (U : Nat → Nat) (m k r : Nat) (f : Nat → Int) : Prop := (∀ i j, i < j → j < r → f i < f j) ∧ ∀ x : Int, Mem f r x ↔ ∃ y : Nat, (y : Int) = x ∧ y < k ∧ cnt U y m = 0

theorem Init2.len {U : Nat → Nat} {m k r : Nat} {f : Nat → Int} (h : Init2 U m k r f) : r ≤ k :=
  inj_len (heap_sorted h.1).2 fun i hi => by
    obtain ⟨y, hy, hk, _⟩ := (h.2 (f i)).1 ⟨i, hi, rfl⟩
    omega

theorem Init2.skip {U : Nat → Nat} {m k r : Nat} {f : Nat → Int} (h : Init2 U m k r f) (hc : cnt U k m ≠ 0) : Init2 U m (k + 1) r f :=
  ⟨h.1, fun x => (h.2 x).trans ⟨fun ⟨y, hy, hk, h0⟩ => ⟨y, hy, by omega, h0⟩, fun ⟨y, hy, hk, h0⟩ => ⟨y, hy, by
    by_cases e : y = k
    · subst e; exact absurd h0 hc
    · omega, h0⟩⟩⟩

theorem Init2.take {U : Nat → Nat} {m k r : Nat} {f : Nat → Int} (h : Init2 U m k r f) (hc : cnt U k m = 0) : Init2 U m (k + 1) (r + 1) (putn f r k) := by
  have hlo : ∀ j, j < r → putn f r k j = f j := fun j hj => by unfold putn; rw [if_neg (by omega)]
  have hhi : putn f r k r = k := by simp [putn]
  refine ⟨fun i j hij hj => ?_, fun x => ?_⟩
  · rw [hlo i (by omega)]
    by_cases e : j = r
    · subst e; rw [hhi]
      obtain ⟨y, hy, hk, _⟩ := (h.2 (f i)).1 ⟨i, hij, rfl⟩
      omega
    · rw [hlo j (by omega)]; exact h.1 i j hij (by omega)
  · rw [push_mem _ hlo x, h.2 x, hhi]
    constructor
    · rintro (⟨y, rfl, hk, h0⟩ | rfl)
      · exact ⟨y, rfl, by omega, h0⟩
      · exact ⟨k, rfl, by omega, hc⟩
    · rintro ⟨y, rfl, hk, h0⟩
      by_cases e : y = k
      · subst e; exact .inr rfl
      · exact .inl ⟨y, rfl, by omega, h0⟩

theorem Arr.ofOwnAt {w : World} {base : Nat} {ty : TypeId} {g cap n : Nat} {xs : List Value} (h : w.ownsRow base ty 1 (.slice (some ⟨g, 0, none⟩) n cap) n xs) : Arr w g ty n cap (fun i => xs.getD i default) := by
  obtain ⟨hl, h⟩ := h
  rcases h with ⟨h, _⟩ | ⟨g', cap', cur, hv, hb, hg, hnc, hm, hs, ht⟩
  · cases h
  · simp only [Value.slice.injEq, Option.some.injEq, Addr.mk.injEq, and_true, true_and] at hv
    obtain ⟨rfl, rfl⟩ := hv
    refine ⟨cur, hg, by omega, hnc, hm, fun i hi => ?_⟩
    rw [← ht]
    have : i < cur.size := by omega
    simp [hi, this]

theorem init_heap {n m : Nat} {S U : Nat → Nat} (g : Gr n m S U) {r : Nat} {f : Nat → Int} (h : Init2 U m n r f) : HeapIs f r (Ready n S U []) := by
  refine ⟨fun x => (h.2 x).trans ⟨fun ⟨y, hy, hk, h0⟩ => ⟨y, hy, hk, by simp, by rw [left_nil g]; exact h0⟩, fun ⟨y, hy, hk, _, h0⟩ => ⟨y, hy, hk, by rw [left_nil g] at h0; exact h0⟩⟩, (heap_sorted h.1).2, (heap_sorted h.1).1⟩

theorem Arr.one (w : World) (v : Value) (ty : TypeId) : Arr (w.alloc (.cells #[v] ty)) w.heap.size ty 1 1 (fun _ => v) := by
  refine ⟨_, heap_alloc_new w _, rfl, Nat.le_refl _, by decide, fun i hi => ?_⟩
  have : i = 0 := by omega
  subst this; rfl

theorem KSt.start {w wr : World} {n : Nat} {p : Nat → Int} (hA : Arr wr w.heap.size 21 n n (V32 p)) (hB : Below w.heap.size w wr) (f : Nat → Int) :
    KSt w (wr.alloc (.cells #[.slice none 0 0] 54)) w.heap.size wr.heap.size n none 0 0 f p := by
  have := hA.lt
  exact ⟨Nat.le_refl _, hB.size, by omega, hA.alloc _, Arr.one _ _ _, .inl ⟨rfl, rfl⟩, hB.alloc hB.size _, fun x hx => by cases hx⟩

theorem left_le {n m : Nat} {S U : Nat → Nat} (g : Gr n m S U) (ord : List Nat) (x : Nat) : left n S U ord x ≤ m := by
  have h1 : left n S U ord x ≤ left n S U [] x := sumTo_le fun v _ => by
    by_cases h : v ∈ ord
    · rw [if_pos h]; exact Nat.zero_le _
    · rw [if_neg h]; simp
  rw [left_nil g] at h1
  have := cnt_le U x m
  omega

/-- 'successors(v)', whatever the graph's edges lie in; w0: the world in which the graph was read. -/
def SuccAny (S U : Nat → Nat) (v : Nat) (w0 w : World) (e : Ending) (w' : World) : Prop :=
  ∃ a' cap' k, e = .returned (.slice a' (S (v + 1) - S v) cap') ∧ (S v < S (v + 1) → ∃ b, a' = some ⟨b, S v, none⟩ ∧ b < w0.heap.size ∧ ∀ j, S v ≤ j → j < S (v + 1) → w0.cell? ⟨b, j, none⟩ = some (.int .i32 (U j))) ∧ w' = w.drewN k

theorem succ_any {gb : Nat} {a0 : Option Addr} {n c0 g1 c1 : Nat} {a2 : Option Addr} {m c2 : Nat} {S U : Nat → Nat} {w0 w : World} (hG : InG w0 gb a0 n c0 g1 c1 a2 m c2 S U) (hB : Below w0.heap.size w0 w) {v : Nat} (hv : v < n) :
    Calls Try.prog 23 #[.pointer (some ⟨gb, 0, none⟩), .int .i32 v] w fun e w' => SuccAny S U v w0 w e w' := by
  have hn := hG.hn
  have hm := hG.hm
  have h1 := hG.gr.le (v + 1) (by omega)
  have h2 := hG.gr.mono v hv
  have hG' := hG.kept hB
  rcases hG.su with ⟨h, h0⟩ | ⟨g2, cap, h, hA⟩
  · simp only [Value.slice.injEq] at h
    obtain ⟨rfl, rfl, rfl⟩ := h
    have e1 : S (v + 1) = 0 := by omega
    have e2 : S v = 0 := by omega
    refine (succ23n gb v n g1 c1 a0 n c0 w hv (by omega) hG'.at_ (by have := hG'.st v (by omega); rw [e2] at this; exact this) (by have := hG'.st (v + 1) (by omega); rw [e1] at this; exact this)).mono ?_
    rintro e w' ⟨a', cap', k, rfl, _, rfl⟩
    exact ⟨a', cap', k, by rw [e1, e2], fun h => by omega, rfl⟩
  · simp only [Value.slice.injEq, true_and] at h
    obtain ⟨rfl, rfl⟩ := h
    refine (succ23 gb v n m c2 g1 g2 c1 a0 n c0 (S v) (S (v + 1)) w hv (by omega) (by omega) hG'.at_ (hG'.st v (by omega)) (hG'.st (v + 1) (by omega)) h2 h1 hA.le hA.capLe).mono ?_
    rintro e w' ⟨a', cap', k, rfl, ha, rfl⟩
    exact ⟨a', cap', k, rfl, fun h => ⟨g2, ha h, hA.lt, fun j _ hj => hA.cell (by omega)⟩, rfl⟩

def Outer (w wr : World) (RB n : Nat) (S U : Nat → Nat) (ov : Value) : Prop :=
  ∃ (ord : List Nat) (ob oc r vc : Nat) (va : Option Addr) (f p : Nat → Int), ov = .slice (some ⟨ob, 0, none⟩) ord.length oc ∧ KSt w wr w.heap.size RB n va r vc f p ∧ OSt w.heap.size wr w.heap.size RB va ord ob oc ∧
    Ok n S U ord ∧ (∀ x, x < n → p x = (left n S U ord x : Nat)) ∧ HeapIs f r (Ready n S U ord)

def Inner (w wr : World) (RB n : Nat) (S U : Nat → Nat) (ord : List Nat) (v ob oc : Nat) (i : Value) : Prop :=
  ∃ (t r vc : Nat) (va : Option Addr) (f p : Nat → Int), t ≤ S (v + 1) - S v ∧ i = .int .i64 t ∧ KSt w wr w.heap.size RB n va r vc f p ∧ OSt w.heap.size wr w.heap.size RB va (ord ++ [v]) ob oc ∧
    (∀ x, x < n → p x = (lft n S U ord v (S v + t) x : Nat)) ∧ HeapIs f r (fun y => y < n ∧ y ∉ ord ++ [v] ∧ lft n S U ord v (S v + t) y = 0)

theorem inner_skip {n m : Nat} {S U : Nat → Nat} (g : Gr n m S U) {ord : List Nat} {v j r u : Nat} {f : Nat → Int} (hok : Ok n S U ord) (hr : Ready n S U ord v) (hj : S v ≤ j) (hj' : j < S (v + 1)) (hu : U j = u)
    (h0 : lft n S U ord v j u ≠ 1) (hH : HeapIs f r (fun y => y < n ∧ y ∉ ord ++ [v] ∧ lft n S U ord v j y = 0)) : HeapIs f r (fun y => y < n ∧ y ∉ ord ++ [v] ∧ lft n S U ord v (j + 1) y = 0) := by
  subst hu
  have h1 := lft_same g hr.1 hr.2.1 hj hj'
  refine hH.congr fun y => ?_
  by_cases e : U j = y
  · subst e
    exact ⟨fun h => by have := h.2.2; omega, fun h => by have := h.2.2; omega⟩
  · rw [lft_other hj e]

theorem inner_push {n m : Nat} {S U : Nat → Nat} (g : Gr n m S U) {ord : List Nat} {v j r u : Nat} {f : Nat → Int} (hok : Ok n S U ord) (hr : Ready n S U ord v) (hj : S v ≤ j) (hj' : j < S (v + 1)) (hu : U j = u)
    (h0 : lft n S U ord v j u = 1) (hm : j < m) (hH : HeapIs f r (fun y => (y < n ∧ y ∉ ord ++ [v] ∧ lft n S U ord v j y = 0) ∨ y = u)) : HeapIs f r (fun y => y < n ∧ y ∉ ord ++ [v] ∧ lft n S U ord v (j + 1) y = 0) := by
  subst hu
  have h1 := lft_same g hr.1 hr.2.1 hj hj'
  have h2 := lft_new g hok hr hj hj'
  refine hH.congr fun y => ?_
  by_cases e : y = U j
  · subst e
    exact ⟨fun _ => ⟨g.lt j hm, h2, by omega⟩, fun _ => .inr rfl⟩
  · rw [lft_other hj (fun h => e h.symm)]
    exact ⟨fun h => h.resolve_right e, .inl⟩

set_option maxHeartbeats 4000000 in
set_option maxRecDepth 100000 in
theorem small20 (gb : Nat) (a0 : Option Addr) (n c0 g1 c1 : Nat) (a2 : Option Addr) (m c2 : Nat) (S U : Nat → Nat) (w : World) (hG : InG w gb a0 n c0 g1 c1 a2 m c2 S U) :
    Calls Try.prog 20 #[.pointer (some ⟨gb, 0, none⟩), .nilIface] w fun e w' => SmallPost n S U w e w' := by
  have hn := hG.hn
  have hm := hG.hm
  have q1 := hG.at_.txns
  have q2 := hG.at_.start
  have q3 := hG.at_.succ
  have hgb := cell_lt q1
  have hmk := fun wx => run_make_row' (P := Try.prog) 22 21 (.int .i32 0) 4 Try.underlying22 info21 rfl .i64 .i64 n (by omega) (by omega) wx
  go_enter Try.func20, Try.ntmps20
  go_wp2
  clear hmk
  generalize hW1 : w.alloc (.cells (madeCells #[.int .i32 0] n) 21) = W1
  have hA : Arr W1 w.heap.size 21 n n (V32 (fun x => (cnt U x 0 : Nat))) := by
    rw [← hW1]; exact (Arr.ofAlloc (by unfold maxLen; omega)).congr (fun i _ => by simp [V32, cnt])
  have hB : Below w.heap.size w W1 := by rw [← hW1]; exact (Below.refl _ _).alloc (Nat.le_refl _) _
  clear hW1
  go_loopw [29] (fun i wr => ∃ k : Nat, k ≤ m ∧ i = .int .i64 k ∧ Arr wr w.heap.size 21 n n (V32 (fun x => (cnt U x k : Nat))) ∧ Below w.heap.size w wr) (fun i _ => m - (intOf i).toNat)
  case atStart => exact ⟨0, Nat.zero_le _, rfl, hA, hB⟩
  case round =>
    obtain ⟨k, hk, rfl, hAk, hBk⟩ := hrel
    clear hA hB
    by_cases hlt : k < m
    · obtain ⟨b, off, rfl, hc⟩ := hG.su.sl.2.2.2 (by omega)
      have hlb := cell_lt (hc k hlt)
      have hck : wr.cell? ⟨b, off + k, none⟩ = some (.int .i32 (U k)) := (hBk.cell (p := ⟨b, off + k, none⟩) (by exact hlb)).trans (hc k hlt)
      have hu := hG.gr.lt k hlt
      obtain ⟨u, hu'⟩ : ∃ u, U k = u := ⟨_, rfl⟩
      rw [hu'] at hck hu
      have hdk := hAk.cell hu
      have hfk := hAk.free u
      obtain ⟨y, hy⟩ : ∃ y, cnt U u k = y := ⟨_, rfl⟩
      have hyb := cnt_le U u k
      rw [hy] at hyb
      have hdk' : wr.cell? ⟨w.heap.size, u, none⟩ = some (.int .i32 (y : Nat)) := by rw [hdk]; simp [V32, hy]
      have HY := hide hy
      have HU := hide hu'
      clear hc hdk hy hu'
      go_wp2
      go_roundw
      case measure => simp [intOf]; omega
      case rel =>
        refine ⟨k + 1, by omega, by go_num, ?_, hBk.setCell (Nat.le_refl _) _⟩
        have := hAk.set hu (.int .i32 ((y : Int) + 1))
        rw [V32_upd] at this
        refine this.congr fun i hi => ?_
        unfold V32
        congr 1
        have e1 := unhide HU
        have e2 := unhide HY
        by_cases e : i = u
        · subst e; simp [cnt, e1, e2]
        · have : ¬ u = i := fun h => e h.symm
          simp [cnt, e1, e, this]
    · have hkm : m = k := by omega
      subst hkm
      go_wp2
      have hK0 := KSt.start hAk hBk (fun _ => 0)
      generalize hRB : wr.heap.size = RB at hK0 ⊢
      generalize hW2 : wr.alloc (.cells #[.slice none 0 0] 54) = W2 at hK0 ⊢
      clear hAk hBk hRB hW2
      go_loopw [42] (fun i wr => ∃ (k r vc : Nat) (va : Option Addr) (f : Nat → Int), k ≤ n ∧ i = .int .i64 k ∧ KSt w wr w.heap.size RB n va r vc f (fun x => (cnt U x m : Nat)) ∧ Init2 U m k r f) (fun i _ => n - (intOf i).toNat)
      case atStart => exact ⟨0, 0, 0, none, _, Nat.zero_le _, rfl, hK0, fun i j _ h => by omega, fun x => ⟨fun ⟨i, h, _⟩ => by omega, fun ⟨y, _, h, _⟩ => by omega⟩⟩
      case round =>
        obtain ⟨k, r, vc, va, f, hk, rfl, hK, hI⟩ := hrel
        clear hK0
        have hrk := hI.len
        by_cases hlt : k < n
        · obtain ⟨y, hy⟩ : ∃ y, cnt U k m = y := ⟨_, rfl⟩
          have hdk : wr.cell? ⟨w.heap.size, k, none⟩ = some (.int .i32 (y : Nat)) := by rw [hK.preds.cell hlt]; simp [V32, hy]
          have HY := hide hy
          clear hy
          by_cases h0 : y = 0
          · have h0' : ((y : Int) == 0) = true := by simp [h0]
            have d0 := hK.rv.cell (i := 0) (by omega)
            go_wp2_with (at_builtin; refine wpList_app1 _ rfl _ _ 54 rfl 21 (.int .i32 0) 4 Try.underlying54 info21 rfl r (V32 f) (.slice va r vc) rfl (hK.hv.alloc _) ⟨wr.heap.size, 0, none⟩ (.int .i32 k) rfl (by simp) rfl rfl (by unfold maxLen; omega) (by omega) ?_; intro g' cap' w1 hA1 hF1 hwh; have hRb1 : Arr w1 RB 54 1 1 (fun _ => .slice va r vc) := (hK.rv.alloc _).kept hF1 (by intro hm; obtain ⟨y, hy, he⟩ := mem_own hm; exact (hK.va_ok y hy).2.1 he); have e0 := hRb1.cell (i := 0) (by omega); have e1 := hRb1.free 0)
            go_roundw
            case measure => simp [intOf]; omega
            case rel => exact ⟨k + 1, r + 1, cap', _, _, by omega, by go_num, hK.app hA1 hF1 hwh, hI.take (by rw [unhide HY]; exact h0)⟩
          · have h0' : ((y : Int) == 0) = false := by simp [h0]
            go_wp2
            go_roundw
            case measure => simp [intOf]; omega
            case rel => exact ⟨k + 1, r, vc, va, f, by omega, by go_num, hK, hI.skip (by rw [unhide HY]; exact h0)⟩
        · have hkn : n = k := by omega
          subst hkn
          have d0 := hK.rv.cell (i := 0) (by omega)
          have hB := hK.bel
          have r1 : wr.cell? ⟨gb, 0, none⟩ = some (.slice a0 n c0) := (hB.cell (p := ⟨gb, 0, none⟩) hgb).trans q1
          obtain ⟨i0, hi, hz0, hz1, hz2⟩ := info_parts info21
          go_wp2_with (at_make; refine wpList_make_own _ rfl _ _ 22 rfl 0 21 i0 (.int .i32 0) 1 Try.underlying22 hi hz0 hz1 .i64 .i64 (n : Int) n rfl rfl rfl (by rw [hz2]; omega) (by unfold maxLen; omega) (Nat.zero_le _) ?_; intro w1 hown1 hgrow1)
          have hF1 : Fr [] wr w1 := Fr.grown hgrow1
          have hK1 := hK.kept hF1 (by simp) (by simp) (by simp) (by simp)
          have hA1 : Arr w1 wr.heap.size 21 0 n (Ord32 []) := (Arr.ofOwnAt hown1).congr (fun i hi => by omega)
          have hO1 : OSt w.heap.size w1 w.heap.size RB va [] wr.heap.size n := ⟨hA1, by have := hK.preds.lt; omega, by have := hK.rv.lt; omega, fun x hx => by have := hK.hv.lt (g := x.block) (by rw [own_slice, hx]; rfl); omega, hK.bel.size⟩
          have hH1 := init_heap hG.gr hI
          have hU1 : Outer w w1 RB n S U (.slice (some ⟨wr.heap.size, 0, none⟩) 0 n) :=
            ⟨[], _, _, _, _, _, _, _, rfl, hK1, hO1, Ok.nil, fun x _ => by rw [left_nil hG.gr], hH1⟩
          clear hK hI hown1 hgrow1 hF1 hK1 hA1 hO1 hH1 d0 hB r1 hi hz0 hz1 hz2
          generalize wr.heap.size = ob0 at hU1 ⊢
          go_loopw [12] (fun ov wr => Outer w wr RB n S U ov) (fun ov _ => n - lenOfV ov)
          case atStart => exact hU1
          case round =>
            obtain ⟨ord, ob, oc, r, vc, va, f, p, rfl, hK, hO, hok, hp, hH⟩ := hrel
            clear hU1
            have hB := hK.bel
            have hlen := hok.len
            have r1 : wr.cell? ⟨gb, 0, none⟩ = some (.slice a0 n c0) := (hB.cell (p := ⟨gb, 0, none⟩) hgb).trans q1
            have d0 := hK.rv.cell (i := 0) (by omega)
            have hrn := hH.len (fun y hy => hy.1)
            cases r with
            | zero =>
              have hend : ∀ x, ¬ Ready n S U ord x := fun x hx => by
                obtain ⟨i, hi, _⟩ := (hH.1 x).2 ⟨x, rfl, hx⟩; omega
              by_cases hfull : ord.length < n
              · go_wp2
                go_ret2
                exact ⟨ord, hok, hend, hB, .inl ⟨hfull, rfl⟩⟩
              · have hl : ord.length = n := by omega
                go_wp2
                go_ret2
                subst hl
                exact ⟨ord, hok, hend, hB, .inr ⟨rfl, ob, oc, rfl, hO.arr, hO.ge⟩⟩
            | succ r =>
              obtain ⟨g, hva, hAg⟩ : ∃ g, va = some ⟨g, 0, none⟩ ∧ Arr wr g 21 (r + 1) vc (V32 f) := by
                rcases hK.hv with ⟨_, h⟩ | ⟨g, cap, h, hA⟩
                · omega
                · simp only [Value.slice.injEq, true_and] at h
                  obtain ⟨rfl, rfl⟩ := h
                  exact ⟨g, rfl, hA⟩
              subst hva
              obtain ⟨v, hv, hRv⟩ := hH.at (i := 0) (by omega)
              have hmin := hH.min hv
              have hvn := hRv.1
              have hpop := pop22 RB g r vc f wr (fun e => (hK.va_ok _ rfl).2.1 e.symm) (by omega) hK.rv hAg hH.2.2
              rw [← hv] at hpop
              have HPOP := hide hpop
              have HV := hide hv
              have HMIN := hide hmin
              have HP := hide hp
              clear hpop hv hmin hRv hp
              go_wp2_with (first | (go_at_call 22; refine (unhide HPOP).mono ?_; rintro e w2 ⟨rfl, hpost⟩; obtain ⟨f2, hK2, hh2, hS2, hF2⟩ := hK.pop hpost; have hO2 := hO.pop hF2) | (at_builtin; refine wpList_app1 _ rfl _ _ 22 rfl 21 (.int .i32 0) 4 Try.underlying22 info21 rfl ord.length (Ord32 ord) (.slice (some ⟨ob, 0, none⟩) ord.length oc) rfl (.inr ⟨ob, oc, rfl, hO2.arr.alloc _⟩) ⟨w2.heap.size, 0, none⟩ (.int .i32 v) rfl (by simp) rfl rfl (by unfold maxLen; omega) (by omega) ?_; intro g3 cap3 w3 hA3 hF3 hwh3))
              obtain ⟨hK3, hO3⟩ := OSt.app hK2 hK2.bel.size hO2 hA3 hF3 hwh3 hO2.ge
              have hB3 := hK3.bel
              have hHs := HeapIs.pop hH (unhide HV) (g := put0 f (f r)) (fun j hj _ => by unfold put0; rw [if_neg (by omega)]) (by simp [put0]) hS2 hh2
              have hNx : Next n S U ord v := unhide HMIN
              have hI3 : Inner w w3 RB n S U ord v g3 cap3 (.int .i64 0) := by
                refine ⟨0, r, vc, _, f2, p, Nat.zero_le _, rfl, hK3, hO3, fun x hx => by rw [Nat.add_zero, lft_start]; exact unhide HP x hx, hHs.congr fun y => ?_⟩
                rw [Nat.add_zero, lft_start]
                constructor
                · rintro ⟨h1, h2⟩
                  exact ⟨h1.1, by simp; exact ⟨h1.2.1, h2⟩, h1.2.2⟩
                · rintro ⟨h1, h2, h3⟩
                  simp at h2
                  exact ⟨⟨h1, h2.1, h3⟩, h2.2⟩
              clear hK hO hH hAg HPOP HV HMIN HP hpost hK2 hh2 hS2 hF2 hO2 hA3 hF3 hwh3 hHs r1 d0 hB hK3 hO3
              refine (succ_any hG hB3 hvn).mono ?_
              rintro e w4 ⟨a', cap', k4, rfl, hcells, rfl⟩
              have HC := hide hcells
              clear hcells hB3
              have hI4 : Inner w (w3.drewN k4) RB n S U ord v g3 cap3 (.int .i64 0) := by
                obtain ⟨t, r, vc, va, f, p, h1, h2, h3, h4, h5⟩ := hI3
                exact ⟨t, r, vc, va, f, p, h1, h2, h3.drewN _, h4.drewN _, h5⟩
              clear hI3
              have hSv := hG.gr.mono v hvn
              have hSm := hG.gr.le (v + 1) (by omega)
              go_wp2
              go_loopw [81] (fun i wr => Inner w wr RB n S U ord v g3 cap3 i) (fun i _ => S (v + 1) - S v - (intOf i).toNat)
              case atStart => exact hI4
              case round =>
                obtain ⟨t, r, vc, va, f, p, ht, rfl, hK, hO, hp, hH⟩ := hrel
                clear hI4
                by_cases hlt : t < S (v + 1) - S v
                · obtain ⟨b, rfl, hb, hcell⟩ := unhide HC (by omega)
                  have hB := hK.bel
                  have hrn := hH.len (fun y hy => hy.1)
                  obtain ⟨u, hu⟩ : ∃ u, U (S v + t) = u := ⟨_, rfl⟩
                  have hck : wr.cell? ⟨b, S v + t, none⟩ = some (.int .i32 (u : Nat)) := by
                    rw [hB.cell (p := ⟨b, S v + t, none⟩) hb, hcell (S v + t) (by omega) (by omega), hu]
                  have hun : u < n := by rw [← hu]; exact hG.gr.lt _ (by omega)
                  obtain ⟨y, hy⟩ : ∃ y, lft n S U ord v (S v + t) u = y := ⟨_, rfl⟩
                  have hpos : 1 ≤ y := by
                    have := lft_pos hG.gr hvn hNx.1.2.1 (j := S v + t) (by omega) (by omega)
                    rw [hu, hy] at this; exact this
                  have hym : y ≤ m := by
                    have h1 := lft_le (n := n) (S := S) (U := U) (ord := ord) (v := v) (j := S v + t) u
                    have h2 := left_le hG.gr ord u
                    omega
                  have hsame : lft n S U ord v (S v + t + 1) u + 1 = y := by
                    have := lft_same hG.gr hvn hNx.1.2.1 (j := S v + t) (by omega) (by omega)
                    rw [hu, hy] at this; exact this
                  have hdk : wr.cell? ⟨w.heap.size, u, none⟩ = some (.int .i32 (y : Nat)) := by rw [hK.preds.cell hun]; simp [V32, hp u hun, hy]
                  have hfk := hK.preds.free u
                  have hK' := hK.store hun ((y : Int) - 1)
                  have hO' := hO.store u (.int .i32 ((y : Int) - 1))
                  have hp' : ∀ x, x < n → (fun j => if j = u then (y : Int) - 1 else p j) x = (lft n S U ord v (S v + (t + 1)) x : Nat) := by
                    intro x hx
                    show (if x = u then _ else _) = _
                    rw [← Nat.add_assoc]
                    by_cases e : x = u
                    · subst e; rw [if_pos rfl]; omega
                    · rw [if_neg e, hp x hx, lft_other (by omega) (by rw [hu]; exact fun h => e h.symm)]
                  have HU := hide hu
                  have HY := hide hy
                  clear hcell hu hy hsame hp
                  by_cases h1 : y = 1
                  · have hz : ((y : Int) - 1 == 0) = true := by simp [h1]
                    have H1 := hide h1
                    clear h1
                    have hpush := push24 RB r f u (.slice va r vc) _ (by omega) hK'.rv hK'.hv (fun e => by
                      obtain ⟨z, hz, he⟩ := mem_own (i := RB) (va := va) (r := r) (vc := vc) (by rw [e]; simp)
                      exact (hK.va_ok z hz).2.1 he) hH.2.2
                    have HPUSH := hide hpush
                    clear hpush
                    go_wp2_with (first | (go_at_call 24; refine (unhide HPUSH).mono ?_; rintro e w5 ⟨rfl, g5, cap5, f5, hpost⟩))
                    go_roundw
                    case measure => simp [intOf]; omega
                    case rel =>
                      refine ⟨t + 1, r + 1, cap5, _, f5, _, by omega, by go_num, hK'.push hpost, hO'.push hpost, hp', ?_⟩
                      rw [← Nat.add_assoc]
                      refine inner_push hG.gr hok hNx.1 (by omega) (by omega) (unhide HU) (by rw [unhide HY]; exact unhide H1) (by omega) ?_
                      exact hH.push (g := putn f r u) (fun h => by have := h.2.2; rw [unhide HY] at this; omega) (fun j hj => by unfold putn; rw [if_neg (by omega)]) (by simp [putn]) hpost.same hpost.heap
                  · have hz : ((y : Int) - 1 == 0) = false := by simp; omega
                    go_wp2
                    go_roundw
                    case measure => simp [intOf]; omega
                    case rel =>
                      refine ⟨t + 1, r, vc, va, f, _, by omega, by go_num, hK', hO', hp', ?_⟩
                      rw [← Nat.add_assoc]
                      exact inner_skip hG.gr hok hNx.1 (by omega) (by omega) (unhide HU) (by rw [unhide HY]; exact h1) hH
                · have e : t = S (v + 1) - S v := by omega
                  subst e
                  go_wp2
                  go_roundw
                  case measure => simp [lenOfV]; have := (hok.snoc hNx).len; simp at this; omega
                  case rel =>
                    have e1 : S v + (S (v + 1) - S v) = S (v + 1) := by omega
                    rw [e1] at hp hH
                    refine ⟨ord ++ [v], g3, cap3, r, vc, va, f, p, by simp, hK, hO, hok.snoc hNx, fun x hx => by rw [hp x hx, lft_end hvn hNx.1.2.1], hH.congr fun y => ?_⟩
                    rw [lft_end hvn hNx.1.2.1]
                    exact Iff.rfl
end Go.Proofs.Qxb6612831a
