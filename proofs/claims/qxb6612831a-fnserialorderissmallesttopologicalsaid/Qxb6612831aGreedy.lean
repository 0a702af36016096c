import Derived.Test.Qxb6612831aSmall
namespace Go.Proofs.Qxb6612831a
open Go.RowKit
set_option linter.unusedVariables false

def VB (b : Nat → Bool) : Nat → Value := fun x => .bool (b x)
theorem VB_upd (b : Nat → Bool) (i : Nat) (v : Bool) : upd (VB b) i (.bool v) = VB (fun j => if j = i then v else b j) := by
  funext j; unfold upd VB; by_cases h : j = i <;> simp [h]

/-- 'placed' at PB, 'blocked' at BB, 'order' at ob. -/
structure GSt (w wr : World) (PB BB n : Nat) (pl bl : Nat → Bool) (ord : List Nat) (ob oc : Nat) : Prop where
  placed : Arr wr PB 4 n n (VB pl)
  blocked : Arr wr BB 4 n n (VB bl)
  order : Arr wr ob 21 ord.length oc (Ord32 ord)
  ne1 : PB ≠ BB
  ne2 : ob ≠ PB
  ne3 : ob ≠ BB
  g1 : w.heap.size ≤ PB
  g2 : w.heap.size ≤ BB
  g3 : w.heap.size ≤ ob
  bel : Below w.heap.size w wr

section
variable {w wr w1 : World} {PB BB n : Nat} {pl bl : Nat → Bool} {ord : List Nat} {ob oc : Nat}

theorem GSt.block (h : GSt w wr PB BB n pl bl ord ob oc) {i : Nat} (hi : i < n) (v : Bool) : GSt w (wr.setCell ⟨BB, i, none⟩ (.bool v)) PB BB n pl (fun j => if j = i then v else bl j) ord ob oc :=
  ⟨h.placed.setAny (fun e => h.ne1 e.symm) _, by have := h.blocked.set hi (.bool v); rw [VB_upd] at this; exact this, h.order.setAny (fun e => h.ne3 e.symm) _, h.ne1, h.ne2, h.ne3, h.g1, h.g2, h.g3, h.bel.setCell h.g2 _⟩

theorem GSt.place (h : GSt w wr PB BB n pl bl ord ob oc) {i : Nat} (hi : i < n) (v : Bool) : GSt w (wr.setCell ⟨PB, i, none⟩ (.bool v)) PB BB n (fun j => if j = i then v else pl j) bl ord ob oc :=
  ⟨by have := h.placed.set hi (.bool v); rw [VB_upd] at this; exact this, h.blocked.setAny h.ne1 _, h.order.setAny (fun e => h.ne2 e.symm) _, h.ne1, h.ne2, h.ne3, h.g1, h.g2, h.g3, h.bel.setCell h.g1 _⟩

theorem GSt.app {v g' cap' : Nat} {o : Obj} (h : GSt w wr PB BB n pl bl ord ob oc)
    (hA : Arr w1 g' 21 (ord.length + 1) cap' (upd (Ord32 ord) ord.length (.int .i32 v))) (hF : Fr (Value.slice (some ⟨ob, 0, none⟩) ord.length oc).ownBlock.toList (wr.alloc o) w1)
    (hwh : (Value.slice (some ⟨ob, 0, none⟩) ord.length oc).ownBlock = some g' ∨ (wr.alloc o).heap.size ≤ g') : GSt w w1 PB BB n pl bl (ord ++ [v]) g' cap' := by
  have hF' : Fr [ob] wr w1 := ((Fr.refl _ _).alloc o).trans' hF
  have hsz : (wr.alloc o).heap.size = wr.heap.size + 1 := by simp
  have l1 := h.placed.lt
  have l2 := h.blocked.lt
  have l3 := h.bel.size
  have hg : g' ≠ PB ∧ g' ≠ BB ∧ w.heap.size ≤ g' := by
    rcases hwh with h1 | h1
    · simp only [Value.ownBlock, Option.some.injEq] at h1; subst h1; exact ⟨h.ne2, h.ne3, h.g3⟩
    · exact ⟨by omega, by omega, by omega⟩
  refine ⟨h.placed.kept hF' (by simpa using fun e => h.ne2 e.symm), h.blocked.kept hF' (by simpa using fun e => h.ne3 e.symm), ?_, h.ne1, hg.1, hg.2.1, h.g1, h.g2, hg.2.2, h.bel.trans (hF'.below h.bel.size (by simpa using h.g3))⟩
  rw [List.length_append, List.length_singleton]
  refine hA.congr fun i hi => ?_
  rw [upd_ord]
  show (if i < ord.length + 1 then _ else _) = _
  rw [if_pos hi]
end

theorem cell_new_at {w : World} (v : Value) (ty : TypeId) {k : Nat} (hk : k = w.heap.size) : (w.alloc (.cells #[v] ty)).cell? ⟨k, 0, none⟩ = some v := by
  subst hk; simp

/-- the nodes that an unplaced node ahead of v points at. -/
def Blk (S U : Nat → Nat) (ord : List Nat) (v x : Nat) : Prop := ∃ u, u < v ∧ u ∉ ord ∧ ∃ k, S u ≤ k ∧ k < S (u + 1) ∧ U k = x
def Plc (n : Nat) (pl : Nat → Bool) (ord : List Nat) : Prop := ∀ x, x < n → (pl x = true ↔ x ∈ ord)

theorem blk_ready {n m : Nat} {S U : Nat → Nat} (g : Gr n m S U) {ord : List Nat} {x : Nat} (hx : x < n) : Ready n S U ord x ↔ x ∉ ord ∧ ¬ Blk S U ord n x := by
  unfold Ready
  rw [left_zero g]
  constructor
  · rintro ⟨_, h1, h2⟩
    refine ⟨h1, ?_⟩
    rintro ⟨u, hu, ho, k, k1, k2, rfl⟩
    exact h2 u hu ho k k1 k2 rfl
  · rintro ⟨h1, h2⟩
    exact ⟨hx, h1, fun v hv ho k k1 k2 e => h2 ⟨v, hv, ho, k, k1, k2, e⟩⟩

theorem blk_skip {S U : Nat → Nat} {ord : List Nat} {v x : Nat} (hv : v ∈ ord) : Blk S U ord (v + 1) x ↔ Blk S U ord v x := by
  constructor
  · rintro ⟨u, hu, ho, r⟩
    refine ⟨u, ?_, ho, r⟩
    by_cases e : u = v
    · subst e; exact absurd hv ho
    · omega
  · rintro ⟨u, hu, r⟩
    exact ⟨u, by omega, r⟩

theorem blk_add {S U : Nat → Nat} {ord : List Nat} {v x : Nat} (hv : v ∉ ord) : Blk S U ord (v + 1) x ↔ Blk S U ord v x ∨ ∃ k, S v ≤ k ∧ k < S (v + 1) ∧ U k = x := by
  constructor
  · rintro ⟨u, hu, ho, r⟩
    by_cases e : u = v
    · subst e; exact .inr r
    · exact .inl ⟨u, by omega, ho, r⟩
  · rintro (⟨u, hu, r⟩ | r)
    · exact ⟨u, by omega, r⟩
    · exact ⟨v, by omega, hv, r⟩

def GrePost (n : Nat) (S U : Nat → Nat) (w : World) (e : Ending) (w' : World) : Prop :=
  ∃ ord, Ok n S U ord ∧ (∀ x, ¬ Ready n S U ord x) ∧ Below w.heap.size w w' ∧
    ((ord.length < n ∧ e = .returned (.tuple #[.slice none 0 0, .bool false])) ∨
     (ord.length = n ∧ ∃ ob oc, e = .returned (.tuple #[.slice (some ⟨ob, 0, none⟩) n oc, .bool true]) ∧ Arr w' ob 21 n oc (Ord32 ord)))

theorem GSt.start {w w1 : World} {n ob : Nat} (hn : n ≤ maxLen) (hF : Fr [] ((w.alloc (.cells (madeCells #[.bool false] n) 4)).alloc (.cells (madeCells #[.bool false] n) 4)) w1) (hA : Arr w1 ob 21 0 n (Ord32 [])) (hob : ob = w.heap.size + 1 + 1) :
    GSt w w1 w.heap.size (w.heap.size + 1) n (fun _ => false) (fun _ => false) [] ob n := by
  have e : (w.alloc (.cells (madeCells #[.bool false] n) 4)).heap.size = w.heap.size + 1 := by simp
  have h1 : Arr (w.alloc (.cells (madeCells #[.bool false] n) 4)) w.heap.size 4 n n (VB fun _ => false) := Arr.ofAlloc hn
  have h2 : Arr ((w.alloc (.cells (madeCells #[.bool false] n) 4)).alloc (.cells (madeCells #[.bool false] n) 4)) (w.heap.size + 1) 4 n n (VB fun _ => false) := by
    have := Arr.ofAlloc (w := w.alloc (.cells (madeCells #[.bool false] n) 4)) (ty := 4) (n := n) (z := .bool false) hn
    rw [e] at this; exact this
  refine ⟨(h1.alloc _).kept hF (by simp), h2.kept hF (by simp), hA, by omega, by omega, by omega, Nat.le_refl _, by omega, by omega, ?_⟩
  have hb : Below w.heap.size w ((w.alloc (.cells (madeCells #[.bool false] n) 4)).alloc (.cells (madeCells #[.bool false] n) 4)) := ((Below.refl _ _).alloc (Nat.le_refl _) _).alloc (by simp) _
  exact hb.trans (hF.below hb.size (by simp))

def GOut (w wr : World) (n : Nat) (S U : Nat → Nat) (ov i : Value) : Prop :=
  ∃ (pl bl : Nat → Bool) (ord : List Nat) (ob oc : Nat), ov = .slice (some ⟨ob, 0, none⟩) ord.length oc ∧ i = .int .i64 ord.length ∧ GSt w wr w.heap.size (w.heap.size + 1) n pl bl ord ob oc ∧ Plc n pl ord ∧ Ok n S U ord

set_option maxHeartbeats 4000000 in
set_option maxRecDepth 100000 in
theorem greedy18 (n g1 c1 : Nat) (a2 : Option Addr) (m c2 : Nat) (S U : Nat → Nat) (w : World) (g : Gr n m S U) (hn : n ≤ 1024) (hm : m ≤ 4096)
    (hst : ∀ i, i ≤ n → w.cell? ⟨g1, i, none⟩ = some (.int .i64 (S i))) (hsu : Sl w a2 m c2 (fun k => .int .i32 (U k))) :
    Calls Try.prog 18 #[.int .i64 n, .slice (some ⟨g1, 0, none⟩) (n + 1) c1, .slice a2 m c2] w fun e w' => GrePost n S U w e w' := by
  have hmk := fun wx => run_make_row' (P := Try.prog) 50 4 (.bool false) 1 Try.underlying50 info4 rfl .i64 .i64 n (by omega) (by omega) wx
  obtain ⟨i0, hi, hz0, hz1, hz2⟩ := info_parts info21
  have hg1 := cell_lt (hst 0 (by omega))
  go_enter Try.func18, Try.ntmps18
  go_wp2_with (at_make; refine wpList_make_own _ rfl _ _ 22 rfl 0 21 i0 (.int .i32 0) 1 Try.underlying22 hi hz0 hz1 .i64 .i64 (n : Int) n rfl rfl rfl (by rw [hz2]; omega) (by unfold maxLen; omega) (Nat.zero_le _) ?_; intro w1 hown1 hgrow1)
  have hsz : ((w.alloc (.cells (madeCells #[.bool false] n) 4)).alloc (.cells (madeCells #[.bool false] n) 4)).heap.size = w.heap.size + 1 + 1 := by simp
  rw [hsz] at hown1
  have hG0 := GSt.start (w := w) (by unfold maxLen; omega) (Fr.grown hgrow1) ((Arr.ofOwnAt hown1).congr (fun i hi => by omega)) rfl
  have hO0 : GOut w w1 n S U (.slice (some ⟨w.heap.size + 1 + 1, 0, none⟩) 0 n) (.int .i64 0) := ⟨_, _, [], _, _, rfl, rfl, hG0, fun x _ => by simp, Ok.nil⟩
  clear hsz hG0 hown1 hgrow1 hi hz0 hz1 hz2 hmk
  go_loopw [10, 11] (fun ov i wr => GOut w wr n S U ov i) (fun _ i _ => n - (intOf i).toNat)
  case atStart => exact hO0
  case round =>
    obtain ⟨pl, bl, ord, ob, oc, rfl, rfl, hS, hP, hok⟩ := hrel
    clear hO0
    have hlen := hok.len
    by_cases hlt : ord.length < n
    · have HP := hide hP
      clear hP
      go_wp2
      -- blocked[x] = false
      go_loopw [12] (fun i wr => ∃ (k : Nat) (bl : Nat → Bool), k ≤ n ∧ i = .int .i64 k ∧ GSt w wr w.heap.size (w.heap.size + 1) n pl bl ord ob oc ∧ ∀ x, x < k → bl x = false) (fun i _ => n - (intOf i).toNat)
      case atStart => exact ⟨0, _, Nat.zero_le _, rfl, hS, fun x hx => by omega⟩
      case round =>
        obtain ⟨k, bl, hk, rfl, hS, hb⟩ := hrel
        have HB := hide hb
        clear hb
        by_cases hkn : k < n
        · have c1 := hS.blocked.cell hkn
          have c2 := hS.blocked.free k
          go_wp2
          go_roundw
          case measure => simp [intOf]; omega
          case rel =>
            refine ⟨k + 1, _, by omega, by go_num, hS.block hkn false, fun x hx => ?_⟩
            show (if x = k then false else bl x) = false
            by_cases e : x = k
            · simp [e]
            · rw [if_neg e]; exact unhide HB x (by omega)
        · have e : n = k := by omega
          subst e
          go_wp2
          -- for v: its edges
          go_loopw [13] (fun i wr => ∃ (v : Nat) (bl : Nat → Bool), v ≤ n ∧ i = .int .i64 v ∧ GSt w wr w.heap.size (w.heap.size + 1) n pl bl ord ob oc ∧ ∀ x, x < n → (bl x = true ↔ Blk S U ord v x)) (fun i _ => n - (intOf i).toNat)
          case atStart => exact ⟨0, bl, Nat.zero_le _, rfl, hS, fun x hx => by rw [unhide HB x hx]; exact ⟨fun h => (by cases h), fun ⟨u, hu, _⟩ => by omega⟩⟩
          case round =>
            obtain ⟨v, bl, hv, rfl, hS, hb⟩ := hrel
            clear HB
            have HB := hide hb
            clear hb
            by_cases hvn : v < n
            · have k1 := hS.placed.cell hvn
              unfold VB at k1
              have s1 : wr.cell? ⟨g1, v, none⟩ = some (.int .i64 (S v)) := (hS.bel.cell (p := ⟨g1, v, none⟩) hg1).trans (hst v (by omega))
              have s2 : wr.cell? ⟨g1, v + 1, none⟩ = some (.int .i64 (S (v + 1))) := (hS.bel.cell (p := ⟨g1, v + 1, none⟩) hg1).trans (hst (v + 1) (by omega))
              cases hpl : pl v with
              | true =>
                rw [hpl] at k1
                have HPL := hide hpl
                clear hpl
                go_wp2
                go_roundw
                case measure => simp [intOf]; omega
                case rel =>
                  refine ⟨v + 1, bl, by omega, by go_num, hS, fun x hx => ?_⟩
                  rw [blk_skip ((unhide HP v hvn).1 (unhide HPL))]
                  exact unhide HB x hx
              | false =>
                rw [hpl] at k1
                have HPL := hide hpl
                clear hpl
                have hSv := g.mono v hvn
                have hSm := g.le (v + 1) (by omega)
                have hS0 := hS
                clear hS
                go_wp2
                clear k1 s1
                go_loopw [14] (fun i wr => ∃ (j : Nat) (bl' : Nat → Bool), S v ≤ j ∧ j ≤ S (v + 1) ∧ i = .int .i64 j ∧ GSt w wr w.heap.size (w.heap.size + 1) n pl bl' ord ob oc ∧ ∀ x, x < n → (bl' x = true ↔ Blk S U ord v x ∨ ∃ k, S v ≤ k ∧ k < j ∧ U k = x)) (fun i _ => S (v + 1) - (intOf i).toNat)
                case atStart => exact ⟨S v, bl, Nat.le_refl _, hSv, rfl, hS0, fun x hx => (unhide HB x hx).trans ⟨.inl, fun h => h.resolve_right (fun ⟨k, h1, h2, _⟩ => by omega)⟩⟩
                case round =>
                  obtain ⟨j, bl', hj1, hj2, rfl, hS, hb⟩ := hrel
                  clear HB hS0
                  have HB := hide hb
                  clear hb s2
                  have s2 : wr.cell? ⟨g1, v + 1, none⟩ = some (.int .i64 (S (v + 1))) := (hS.bel.cell (p := ⟨g1, v + 1, none⟩) hg1).trans (hst (v + 1) (by omega))
                  by_cases hjl : j < S (v + 1)
                  · obtain ⟨b, off, rfl, hc⟩ := hsu.2.2.2 (by omega)
                    obtain ⟨u, hu⟩ : ∃ u, U j = u := ⟨_, rfl⟩
                    have hun : u < n := by rw [← hu]; exact g.lt _ (by omega)
                    have hck : wr.cell? ⟨b, off + j, none⟩ = some (.int .i32 (u : Nat)) := by
                      rw [hS.bel.cell (p := ⟨b, off + j, none⟩) (cell_lt (hc j (by omega))), hc j (by omega)]
                      simp only [hu]
                    have k1 := hS.blocked.cell hun
                    have k2 := hS.blocked.free u
                    have HU := hide hu
                    clear hu hc
                    go_wp2
                    go_roundw
                    case measure => simp [intOf]; omega
                    case rel =>
                      refine ⟨j + 1, _, by omega, by omega, by go_num, hS.block hun true, fun x hx => ?_⟩
                      show (if x = u then true else bl' x) = true ↔ _
                      by_cases e : x = u
                      · subst e; rw [if_pos rfl]
                        exact ⟨fun _ => .inr ⟨j, hj1, by omega, unhide HU⟩, fun _ => rfl⟩
                      · rw [if_neg e, unhide HB x hx]
                        constructor
                        · rintro (h | ⟨k, h1, h2, h3⟩)
                          · exact .inl h
                          · exact .inr ⟨k, h1, by omega, h3⟩
                        · rintro (h | ⟨k, h1, h2, h3⟩)
                          · exact .inl h
                          · refine .inr ⟨k, h1, ?_, h3⟩
                            by_cases ek : k = j
                            · subst ek; exact absurd ((unhide HU).symm.trans h3) (fun h => e h.symm)
                            · omega
                  · have e : j = S (v + 1) := by omega
                    subst e
                    go_wp2
                    go_roundw
                    case measure => simp [intOf]; omega
                    case rel =>
                      refine ⟨v + 1, bl', by omega, by go_num, hS, fun x hx => ?_⟩
                      rw [blk_add (fun h => by have := (unhide HP v hvn).2 h; rw [unhide HPL] at this; cases this)]
                      exact unhide HB x hx
            · have e : n = v := by omega
              subst e
              go_wp2
              go_loopw [15, 16] (fun pk i wr => ∃ x : Nat, x ≤ n ∧ i = .int .i64 x ∧ pk = .int .i64 (-1) ∧ GSt w wr w.heap.size (w.heap.size + 1) n pl bl ord ob oc ∧ ∀ y, y < x → ¬ Ready n S U ord y) (fun _ i _ => n - (intOf i).toNat)
              case atStart => exact ⟨0, Nat.zero_le _, rfl, rfl, hS, fun y hy => by omega⟩
              case round =>
                obtain ⟨x, hx, rfl, rfl, hS, hno⟩ := hrel
                have HNO := hide hno
                clear hno
                by_cases hxn : x < n
                · have k1 := hS.placed.cell hxn
                  have k2 := hS.blocked.cell hxn
                  have k3 := hS.placed.free x
                  unfold VB at k1 k2
                  cases hpl : pl x with
                  | true =>
                    rw [hpl] at k1
                    have HN : Hid (¬ Ready n S U ord x) := fun h => h.2.1 ((unhide HP x hxn).1 hpl)
                    clear hpl
                    go_wp2
                    go_roundw
                    case measure => simp [intOf]; omega
                    case rel =>
                      refine ⟨x + 1, by omega, by go_num, rfl, hS, fun y hy => ?_⟩
                      by_cases e : y = x
                      · subst e; exact unhide HN
                      · exact unhide HNO y (by omega)
                  | false =>
                    rw [hpl] at k1
                    have HPL := hide hpl
                    clear hpl
                    cases hbl : bl x with
                    | true =>
                      rw [hbl] at k2
                      have HN : Hid (¬ Ready n S U ord x) := fun h => ((blk_ready g hxn).1 h).2 ((unhide HB x hxn).1 hbl)
                      clear hbl
                      go_wp2
                      go_roundw
                      case measure => simp [intOf]; omega
                      case rel =>
                        refine ⟨x + 1, by omega, by go_num, rfl, hS, fun y hy => ?_⟩
                        by_cases e : y = x
                        · subst e; exact unhide HN
                        · exact unhide HNO y (by omega)
                    | false =>
                      rw [hbl] at k2
                      have HNX : Hid (Next n S U ord x) := ⟨(blk_ready g hxn).2 ⟨fun h => (by have := (unhide HP x hxn).2 h; rw [unhide HPL] at this; cases this), fun h => (by have := (unhide HB x hxn).2 h; rw [hbl] at this; cases this)⟩, unhide HNO⟩
                      clear hbl
                      have hS2 := hS.place hxn true
                      go_wp2_with (at_builtin; (refine wpList_app1 _ rfl _ _ 22 rfl 21 (.int .i32 0) 4 Try.underlying22 info21 rfl ord.length (Ord32 ord) (.slice (some ⟨ob, 0, none⟩) ord.length oc) rfl (.inr ⟨ob, oc, rfl, hS2.order.alloc _⟩) ⟨wr.heap.size, 0, none⟩ (.int .i32 x) rfl (cell_new_at _ _ (by simp)) rfl rfl (by unfold maxLen; omega) (by omega) ?_); intro g3 cap3 w3 hA3 hF3 hwh3)
                      go_roundw
                      case measure => simp [intOf]; omega
                      case rel =>
                        refine ⟨_, bl, ord ++ [x], g3, cap3, by simp, by simp, hS2.app hA3 hF3 hwh3, fun y hy => ?_, hok.snoc (unhide HNX)⟩
                        show (if y = x then true else pl y) = true ↔ _
                        by_cases e : y = x
                        · subst e; simp
                        · rw [if_neg e, unhide HP y hy]; simp [e]
                · have e : n = x := by omega
                  subst e
                  go_wp2
                  go_ret2
                  exact ⟨ord, hok, fun y hy => unhide HNO y hy.1 hy, hS.bel, .inl ⟨hlt, rfl⟩⟩
    · have hl : ord.length = n := by omega
      go_wp2
      go_ret2
      subst hl
      exact ⟨ord, hok, full_end hok rfl, hS.bel, .inr ⟨rfl, ob, oc, rfl, hS.order⟩⟩
end Go.Proofs.Qxb6612831a
