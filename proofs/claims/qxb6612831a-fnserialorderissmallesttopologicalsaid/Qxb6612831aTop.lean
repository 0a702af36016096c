import Derived.Test.Qxb6612831aShape
import Derived.Test.Qxb6612831aSerial
import Derived.Test.Qxb6612831aGreedy
namespace Go.Proofs.Qxb6612831a
open Go.RowKit
set_option linter.unusedVariables false

set_option maxHeartbeats 1000000 in
theorem bytes12 (a0 : Option Addr) (n c0 : Nat) (a1 : Option Addr) (l1 c1 : Nat) (a2 : Option Addr) (m c2 : Nat) (w : World) (h0 : n ≤ maxLen) (h1 : l1 ≤ maxLen) (h2 : m ≤ maxLen) :
    Calls Try.prog 12 #[.slice a0 n c0, .slice a1 l1 c1, .slice a2 m c2] w fun e w' => (∃ b, e = .returned (.bool b)) ∧ w' = w := by
  unfold maxLen at h0 h1 h2
  go_enter Try.func12, Try.ntmps12
  go_wp2
  all_goals
    go_ret
    exact ⟨⟨_, rfl⟩, rfl⟩

theorem below_drewN {B : Nat} {a w : World} (h : Below B a w) (k : Nat) : Below B a (w.drewN k) := ⟨h.os, h.tape, h.output, h.size, h.block⟩

theorem Vec.congr {w : World} {v : Value} {ty : TypeId} {n : Nat} {f g : Nat → Value} (h : Vec w v ty n f) (hfg : ∀ i, i < n → f i = g i) : Vec w v ty n g := by
  rcases h with h | ⟨b, cap, rfl, h⟩
  · exact .inl h
  · exact .inr ⟨b, cap, rfl, h.congr hfg⟩

theorem Vec.at {w : World} {a : Option Addr} {ty : TypeId} {n cap : Nat} {f : Nat → Value} (h : Vec w (.slice a n cap) ty n f) (hn : 0 < n) : ∃ b, a = some ⟨b, 0, none⟩ ∧ Arr w b ty n cap f := by
  rcases h with ⟨_, h⟩ | ⟨b, c, e, h⟩
  · omega
  · simp only [Value.slice.injEq, true_and] at e
    obtain ⟨rfl, rfl⟩ := e
    exact ⟨b, rfl, h⟩

set_option maxHeartbeats 4000000 in
set_option maxRecDepth 100000 in
theorem top5 (a0 : Option Addr) (n c0 : Nat) (a1 : Option Addr) (l1 c1 : Nat) (a2 : Option Addr) (m c2 : Nat) (z0 st su : Nat → Int) (w : World)
    (h0 : Sl w a0 n c0 (fun i => .int .u64 (z0 i))) (h1 : Sl w a1 l1 c1 (fun i => .int .i64 (st i))) (h2 : Sl w a2 m c2 (fun i => .int .i32 (su i)))
    (hsu : ∀ k, k < m → -2147483648 ≤ su k ∧ su k ≤ 2147483647) :
    Calls Try.prog 5 #[.slice a0 n c0, .slice a1 l1 c1, .slice a2 m c2] w fun e w' => e = .returned (.bool true) ∧ Below w.heap.size w w' := by
  have b0 := Nat.le_trans h0.1 h0.2.1
  have b1 := Nat.le_trans h1.1 h1.2.1
  have b2 := Nat.le_trans h2.1 h2.2.1
  have HQ := hide (bytes12 a0 n c0 a1 l1 c1 a2 m c2 w b0 b1 b2)
  unfold maxLen at b0 b1 b2
  by_cases hbig : n ≤ 1024 ∧ l1 ≤ 1025 ∧ m ≤ 4096
  · obtain ⟨hn, hl, hm⟩ := hbig
    have HS := hide (shape13 a0 n c0 a1 l1 c1 a2 m c2 st su w hn hl hm h1 h2 hsu)
    have d0 : decide ((1024 : Int) < (n : Int)) = false := decide_eq_false (by omega)
    have d1 : decide ((1025 : Int) < (l1 : Int)) = false := decide_eq_false (by omega)
    have d2 : decide ((4096 : Int) < (m : Int)) = false := decide_eq_false (by omega)
    go_enter Try.func5, Try.ntmps5
    go_wp2_with fail
    refine (unhide HQ).mono ?_
    rintro e w' ⟨⟨b, rfl⟩, hw⟩
    obtain rfl : w = w' := hw.symm
    clear HQ hw
    cases b
    · go_wp2
      go_ret
      exact ⟨rfl, Below.refl _ _⟩
    · go_wp2_with fail
      refine (unhide HS).mono ?_
      rintro e w1 ⟨b, k, rfl, rfl, hshp⟩
      clear HS
      cases b
      · go_wp2
        go_ret
        exact ⟨rfl, below_drewN (Below.refl _ _) _⟩
      · have hSh := hshp rfl
        clear hshp
        have hlen := hSh.len
        subst hlen
        have hB0 : Below w.heap.size w (w.drewN k) := below_drewN (Below.refl _ _) _
        have h0 : Sl (w.drewN k) a0 n c0 (fun i => .int .u64 (z0 i)) := h0
        have h1 : Sl (w.drewN k) a1 (n + 1) c1 (fun i => .int .i64 (st i)) := h1
        have h2 : Sl (w.drewN k) a2 m c2 (fun i => .int .i32 (su i)) := h2
        generalize w.drewN k = W0 at hB0 h0 h1 h2 ⊢
        have c1 := clone14 a0 n c0 z0 W0 (by omega) h0
        go_wp2_with fail
        refine c1.mono ?_
        clear c1
        rintro e W1 ⟨x0, y0, rfl, v0, B1, hx0⟩
        have hB1 := hB0.trans (B1.mono hB0.size)
        have h1 := h1.kept B1
        have h2 := h2.kept B1
        clear B1 hB0 h0
        have c2 := clone15 a1 (n + 1) c1 st W1 (by omega) h1
        go_wp2_with fail
        refine c2.mono ?_
        clear c2
        rintro e W2 ⟨x1, y1, rfl, v1, B2, hx1⟩
        have hB2 := hB1.trans (B2.mono hB1.size)
        have h2 := h2.kept B2
        have v0 := v0.kept (Fr.ofBelow B2) (by simp)
        clear B2 hB1 h1
        have c3 := clone7 a2 m c2 su W2 (by omega) h2
        go_wp2_with fail
        refine c3.mono ?_
        clear c3
        rintro e W3 ⟨x2, y2, rfl, v2, B3, hx2⟩
        have hB3 := hB2.trans (B3.mono hB2.size)
        have v0 := v0.kept (Fr.ofBelow B3) (by simp)
        have v1 := v1.kept (Fr.ofBelow B3) (by simp)
        clear B3 hB2 h2
        -- the second copies
        have c1 := clone14 x0 n y0 z0 W3 (by omega) v0.sl
        go_wp2_with fail
        refine c1.mono ?_
        clear c1
        rintro e W4 ⟨p0, q0, rfl, u0, B4, _⟩
        have hB4 := hB3.trans (B4.mono hB3.size)
        have v0 := v0.kept (Fr.ofBelow B4) (by simp)
        have v1 := v1.kept (Fr.ofBelow B4) (by simp)
        have v2 := v2.kept (Fr.ofBelow B4) (by simp)
        clear B4 hB3
        have c2 := clone15 x1 (n + 1) y1 st W4 (by omega) v1.sl
        go_wp2_with fail
        refine c2.mono ?_
        clear c2
        rintro e W5 ⟨p1, q1, rfl, u1, B5, _⟩
        have hB5 := hB4.trans (B5.mono hB4.size)
        have v0 := v0.kept (Fr.ofBelow B5) (by simp)
        have v1 := v1.kept (Fr.ofBelow B5) (by simp)
        have v2 := v2.kept (Fr.ofBelow B5) (by simp)
        have u0 := u0.kept (Fr.ofBelow B5) (by simp)
        clear B5 hB4
        have c3 := clone7 x2 m y2 su W5 (by omega) v2.sl
        go_wp2_with fail
        refine c3.mono ?_
        clear c3
        rintro e W6 ⟨p2, q2, rfl, u2, B6, _⟩
        have hB6 := hB5.trans (B6.mono hB5.size)
        have v0 := v0.kept (Fr.ofBelow B6) (by simp)
        have v1 := v1.kept (Fr.ofBelow B6) (by simp)
        have v2 := v2.kept (Fr.ofBelow B6) (by simp)
        have u0 := u0.kept (Fr.ofBelow B6) (by simp)
        have u1 := u1.kept (Fr.ofBelow B6) (by simp)
        clear B6 hB5
        have c4 := newGraph16 p0 n q0 z0 p1 (n + 1) q1 p2 m q2 W6 (by omega) u0.sl
        go_wp2_with fail
        refine c4.mono ?_
        clear c4
        rintro e W7 ⟨gb, t0, r0, rfl, hga, w0, B7, hgb⟩
        have hB7 := hB6.trans (B7.mono hB6.size)
        have v0 := v0.kept (Fr.ofBelow B7) (by simp)
        have v1 := v1.kept (Fr.ofBelow B7) (by simp)
        have v2 := v2.kept (Fr.ofBelow B7) (by simp)
        have u1 := u1.kept (Fr.ofBelow B7) (by simp)
        have u2 := u2.kept (Fr.ofBelow B7) (by simp)
        clear B7 hB6 u0
        obtain ⟨g1, rfl, A1⟩ := u1.at (by omega)
        obtain ⟨f1, rfl, D1⟩ := v1.at (by omega)
        have hstb := st_mono hSh.s0 hSh.sn hSh.mono
        obtain ⟨S, hSd⟩ : ∃ S : Nat → Nat, (fun i => (st i).toNat) = S := ⟨_, rfl⟩
        obtain ⟨U, hUd⟩ : ∃ U : Nat → Nat, (fun k => (su k).toNat) = U := ⟨_, rfl⟩
        have hgr := hSh.gr
        rw [hSd, hUd] at hgr
        have hst : ∀ i, i ≤ n → st i = (S i : Int) := fun i hi => by have := hstb i hi; rw [← hSd]; show st i = ((st i).toNat : Int); omega
        have hsu' : ∀ k, k < m → su k = (U k : Int) := fun k hk => by have := hSh.all hk; rw [← hUd]; show su k = ((su k).toNat : Int); omega
        have hIn : InG W7 gb t0 n r0 g1 q1 p2 m q2 S U :=
          ⟨hgr, hga, fun i hi => by rw [A1.cell (i := i) (by omega), hst i hi], u2.congr (fun k hk => by rw [hsu' k hk]), hn, hm⟩
        have c5 := serial17 gb t0 n r0 g1 q1 p2 m q2 S U z0 W7 hIn w0.sl
        have cst : ∀ i, i ≤ n → W7.cell? ⟨f1, i, none⟩ = some (.int .i64 (S i)) := fun i hi => by rw [D1.cell (i := i) (by omega), hst i hi]
        have csu : Sl W7 x2 m y2 (fun k => .int .i32 (U k)) := (v2.congr (fun k hk => by rw [hsu' k hk])).sl
        clear hga w0 hIn hst hsu' hstb hSh A1 D1 u1 u2 v1 v2 h0 h1 h2 hsu hgb hx0 hx1 hx2 hSd hUd
        have C5 := hide c5
        have CST := hide cst
        clear c5 cst
        go_wp2_with fail
        refine (unhide C5).mono ?_
        clear C5
        rintro e W8 ⟨ord, hok, hend, B8, hor⟩
        have hB8 := hB7.trans (B8.mono hB7.size)
        have csu := csu.kept B8
        have v0 := v0.kept (Fr.ofBelow B8) (by simp)
        have cst : ∀ i, i ≤ n → W8.cell? ⟨f1, i, none⟩ = some (.int .i64 (S i)) := fun i hi => by
          rw [B8.cell (p := ⟨f1, i, none⟩) (cell_lt (unhide CST i hi))]; exact unhide CST i hi
        have C6 := hide (greedy18 n f1 y1 x2 m y2 S U W8 hgr hn hm cst csu)
        clear cst csu CST B8 hB7
        rcases hor with ⟨hl, rfl⟩ | ⟨hl, ob, rfl, hA⟩
        · go_wp2_with fail
          refine (unhide C6).mono ?_
          clear C6
          rintro e W9 ⟨ord2, hok2, hend2, B9, hor2⟩
          have hB9 := hB8.trans (B9.mono hB8.size)
          obtain rfl : ord = ord2 := ok_eq hok hok2 hend hend2
          rcases hor2 with ⟨_, rfl⟩ | ⟨hl2, _⟩
          · go_wp2
            go_ret
            exact ⟨rfl, hB9⟩
          · omega
        · go_wp2_with fail
          refine (unhide C6).mono ?_
          clear C6
          rintro e W9 ⟨ord2, hok2, hend2, B9, hor2⟩
          have hB9 := hB8.trans (B9.mono hB8.size)
          obtain rfl : ord = ord2 := ok_eq hok hok2 hend hend2
          rcases hor2 with ⟨hl2, _⟩ | ⟨_, ob2, oc2, rfl, hA2⟩
          · omega
          · have hA := hA.kept (Fr.ofBelow B9) (by simp)
            have v0 := v0.kept (Fr.ofBelow B9) (by simp)
            clear B9 hB8 hend hend2 hok2
            go_wp2
            go_loopw [13] (fun i wr => ∃ p q : Nat, p ≤ n ∧ i = .int .i64 p ∧ wr = W9.drewN q) (fun i _ => n - (intOf i).toNat)
            case atStart => exact ⟨0, 0, Nat.zero_le _, rfl, rfl⟩
            case round =>
              obtain ⟨p, q, hp, rfl, rfl⟩ := hrel
              by_cases hpn : p < n
              · obtain ⟨f0, rfl, A0⟩ := v0.at (by omega)
                have hu : ord.getD p 0 < n := by
                  have : p < ord.length := by omega
                  rw [List.getD_eq_getElem?_getD, List.getElem?_eq_getElem this]
                  exact hok.lt _ (List.getElem_mem this)
                have k1 := hA.cell hpn
                have k2 : W9.cell? ⟨ob2, p, none⟩ = some (Ord32 ord p) := hA2.cell hpn
                have k3 : W9.cell? ⟨f0, ord.getD p 0, none⟩ = some (.int .u64 (z0 (ord.getD p 0))) := A0.cell hu
                unfold Ord32 at k2
                obtain ⟨u, hu'⟩ : ∃ u, ord.getD p 0 = u := ⟨_, rfl⟩
                simp only [hu'] at k1 k2 k3 hu
                clear hu'
                obtain ⟨x, hx⟩ : ∃ x, z0 u = x := ⟨_, rfl⟩
                simp only [hx] at k1 k3
                clear hx
                have e1 : (p : Int) < (n : Int) := by omega
                have e2 : (u : Int) < (n : Int) := by omega
                go_wp2_with fail
                go_quiet (fail)
                go_wp2
                go_roundw
                case measure => simp [intOf]; omega
                case rel => exact ⟨p + 1, _, by omega, by go_num, rfl⟩
              · go_wp2
                go_ret
                exact ⟨rfl, below_drewN hB9 _⟩
  · go_enter Try.func5, Try.ntmps5
    go_wp2_with (first | (go_at_call 12; refine (unhide HQ).mono ?_; rintro e w' ⟨⟨b, rfl⟩, rfl⟩; cases b))
    all_goals first | (go_ret; exact ⟨rfl, Below.refl _ _⟩) | (exfalso; omega)
end Go.Proofs.Qxb6612831a
