import Derived.Test.Qxb6612831aClone
import Derived.Test.Qxb6612831aTopo
namespace Go.Proofs.Qxb6612831a
open Go.RowKit
set_option linter.unusedVariables false

/-- what zzGraphShape tells where it says true. -/
structure Shp (n l1 m : Nat) (st su : Nat → Int) : Prop where
  len : l1 = n + 1
  s0 : st 0 = 0
  sn : st n = m
  mono : ∀ v, v < n → st v ≤ st (v + 1)
  lt : ∀ v, v < n → ∀ k : Nat, st v ≤ k → (k : Int) < st (v + 1) → 0 ≤ su k ∧ su k < n

theorem st_mono {n m : Nat} {st : Nat → Int} (s0 : st 0 = 0) (sn : st n = m) (mono : ∀ v, v < n → st v ≤ st (v + 1)) : ∀ i, i ≤ n → 0 ≤ st i ∧ st i ≤ m := by
  have h1 : ∀ i, i ≤ n → 0 ≤ st i := by
    intro i
    induction i with
    | zero => intro _; omega
    | succ i ih => intro h; have := ih (by omega); have := mono i (by omega); omega
  have h2 : ∀ d i, i + d = n → st i ≤ m := by
    intro d
    induction d with
    | zero => intro i h; have : i = n := by omega
              subst this; omega
    | succ d ih => intro i h; have := ih (i + 1) (by omega); have := mono i (by omega); omega
  exact fun i hi => ⟨h1 i hi, h2 (n - i) i (by omega)⟩

theorem owner {m : Nat} {S : Nat → Nat} (s0 : S 0 = 0) : ∀ j, S j ≤ m → ∀ k, k < S j → ∃ v, v < j ∧ S v ≤ k ∧ k < S (v + 1) ∨ ∃ v, v < j ∧ S (v + 1) < S v := by
  intro j
  induction j with
  | zero => intro _ k hk; omega
  | succ j ih =>
    intro hj k hk
    by_cases h : S j ≤ k
    · exact ⟨j, .inl ⟨by omega, h, hk⟩⟩
    · by_cases h2 : S (j + 1) < S j
      · exact ⟨0, .inr ⟨j, by omega, h2⟩⟩
      · obtain ⟨v, hv⟩ := ih (by omega) k (by omega)
        rcases hv with ⟨h3, h4⟩ | ⟨v', h3, h4⟩
        · exact ⟨v, .inl ⟨by omega, h4⟩⟩
        · exact ⟨v, .inr ⟨v', by omega, h4⟩⟩

theorem Shp.all {n l1 m : Nat} {st su : Nat → Int} (h : Shp n l1 m st su) {k : Nat} (hk : k < m) : 0 ≤ su k ∧ su k < n := by
  have hb := st_mono h.s0 h.sn h.mono
  have hmono : ∀ v, v < n → (st v).toNat ≤ (st (v + 1)).toNat := fun v hv => by have := h.mono v hv; omega
  have hn : (st n).toNat = m := by rw [h.sn]; rfl
  obtain ⟨v, hv⟩ := owner (m := m) (S := fun i => (st i).toNat) (by show (st 0).toNat = 0; rw [h.s0]; rfl) n (by show (st n).toNat ≤ m; omega) k (by show k < (st n).toNat; omega)
  rcases hv with ⟨h1, h2, h3⟩ | ⟨v', h1, h2⟩
  · have h2 : (st v).toNat ≤ k := h2
    have h3 : k < (st (v + 1)).toNat := h3
    have b1 := hb v (by omega)
    have b2 := hb (v + 1) (by omega)
    exact h.lt v h1 k (by omega) (by omega)
  · have := hmono v' h1
    have h2 : (st (v' + 1)).toNat < (st v').toNat := h2
    omega

theorem Shp.gr {n l1 m : Nat} {st su : Nat → Int} (h : Shp n l1 m st su) : Gr n m (fun i => (st i).toNat) (fun k => (su k).toNat) := by
  have hmono : ∀ v, v < n → (st v).toNat ≤ (st (v + 1)).toNat := fun v hv => by have := h.mono v hv; omega
  refine ⟨by show (st 0).toNat = 0; rw [h.s0]; rfl, by show (st n).toNat = m; rw [h.sn]; rfl, hmono, fun k hk => ?_⟩
  have := h.all hk
  show (su k).toNat < n
  omega

def ShpPost (n l1 m : Nat) (st su : Nat → Int) (w : World) (e : Ending) (w' : World) : Prop := ∃ (b : Bool) (k : Nat), e = .returned (.bool b) ∧ w' = w.drewN k ∧ (b = true → Shp n l1 m st su)

set_option maxHeartbeats 4000000 in
set_option maxRecDepth 100000 in
theorem shape13 (a0 : Option Addr) (n c0 : Nat) (a1 : Option Addr) (l1 c1 : Nat) (a2 : Option Addr) (m c2 : Nat) (st su : Nat → Int) (w : World)
    (hn : n ≤ 1024) (hl : l1 ≤ 1025) (hm : m ≤ 4096) (h1 : Sl w a1 l1 c1 (fun i => .int .i64 (st i))) (h2 : Sl w a2 m c2 (fun i => .int .i32 (su i)))
    (hsu : ∀ k, k < m → -2147483648 ≤ su k ∧ su k ≤ 2147483647) :
    Calls Try.prog 13 #[.slice a0 n c0, .slice a1 l1 c1, .slice a2 m c2] w fun e w' => ShpPost n l1 m st su w e w' := by
  by_cases hln : l1 = n + 1
  · subst hln
    obtain ⟨b1, o1, rfl, hc1⟩ := h1.2.2.2 (by omega)
    have k0 := hc1 0 (by omega)
    have kn := hc1 n (by omega)
    rw [Nat.add_zero] at k0
    by_cases hs0 : st 0 = 0
    · by_cases hsn : st n = m
      · have t1 : (st 0 != 0) = false := by simp [hs0]
        have t2 : (st n != (m : Int)) = false := by simp [hsn]
        have HS0 := hide hs0
        have HSN := hide hsn
        clear hs0 hsn
        go_enter Try.func13, Try.ntmps13
        go_wp2
        clear t1 t2 k0 kn
        have HC1 := hide hc1
        clear hc1
        go_loopw [8] (fun i wr => ∃ v q : Nat, v ≤ n ∧ i = .int .i64 v ∧ (∀ u, u < v → st u ≤ st (u + 1)) ∧ wr = w.drewN q) (fun i _ => n - (intOf i).toNat)
        case atStart => exact ⟨0, 0, Nat.zero_le _, rfl, fun u hu => by omega, rfl⟩
        case round =>
          obtain ⟨v, q, hv, rfl, hmono, rfl⟩ := hrel
          have HM := hide hmono
          clear hmono
          by_cases hvn : v < n
          · have kv := unhide HC1 v (by omega)
            have kv1 := unhide HC1 (v + 1) (by omega)
            obtain ⟨x, hx⟩ : ∃ x, st v = x := ⟨_, rfl⟩
            obtain ⟨y, hy⟩ : ∃ y, st (v + 1) = y := ⟨_, rfl⟩
            simp only [hx] at kv
            simp only [hy] at kv1
            have HX := hide hx
            have HY := hide hy
            clear hx hy
            have e0 : (v : Int) < (n : Int) + 1 := by omega
            have e1 : (v : Int) + 1 < (n : Int) + 1 := by omega
            go_wp2_with fail
            go_quiet (fail)
            by_cases hle : y < x
            · go_wp2
              go_ret
              exact ⟨_, q + nq, rfl, by rw [World.drewN_drewN], fun h => by cases h⟩
            · go_wp2
              go_roundw
              case measure => simp [intOf]; omega
              case rel =>
                refine ⟨v + 1, _, by omega, by go_num, fun u hu => ?_, rfl⟩
                by_cases e : u = v
                · subst e; rw [unhide HX, unhide HY]; omega
                · exact unhide HM u (by omega)
          · have e : n = v := by omega
            subst e
            have hbd := st_mono (unhide HS0) (unhide HSN) (unhide HM)
            have HBD := hide hbd
            clear hbd
            go_wp2
            go_loopw [9] (fun i wr => ∃ v q : Nat, v ≤ n ∧ i = .int .i64 v ∧ (∀ u, u < v → ∀ k : Nat, st u ≤ k → (k : Int) < st (u + 1) → 0 ≤ su k ∧ su k < n) ∧ wr = w.drewN q) (fun i _ => n - (intOf i).toNat)
            case atStart => exact ⟨0, q, Nat.zero_le _, rfl, fun u hu => by omega, rfl⟩
            case round =>
              obtain ⟨v, q, hv, rfl, hlt, rfl⟩ := hrel
              have HL := hide hlt
              clear hlt
              by_cases hvn : v < n
              · have kv := unhide HC1 v (by omega)
                have kv1 := unhide HC1 (v + 1) (by omega)
                obtain ⟨x, hx⟩ : ∃ x : Nat, st v = x := ⟨(st v).toNat, by have := unhide HBD v (by omega); omega⟩
                obtain ⟨y, hy⟩ : ∃ y : Nat, st (v + 1) = y := ⟨(st (v + 1)).toNat, by have := unhide HBD (v + 1) (by omega); omega⟩
                have hym : y ≤ m := by have := (unhide HBD (v + 1) (by omega)).2; omega
                have hxy : x ≤ y := by have := unhide HM v hvn; omega
                simp only [hx] at kv
                simp only [hy] at kv1
                have HX := hide hx
                have HY := hide hy
                clear hx hy
                have e0 : (v : Int) < (n : Int) + 1 := by omega
                have e1 : (v : Int) + 1 < (n : Int) + 1 := by omega
                go_wp2
                go_loopw [10] (fun i wr => ∃ k q : Nat, x ≤ k ∧ k ≤ y ∧ i = .int .i64 k ∧ (∀ j : Nat, x ≤ j → j < k → 0 ≤ su j ∧ su j < n) ∧ wr = w.drewN q) (fun i _ => y - (intOf i).toNat)
                case atStart => exact ⟨x, q, Nat.le_refl _, hxy, rfl, fun j h1 h2 => by omega, rfl⟩
                case round =>
                  obtain ⟨k, q, hk1, hk2, rfl, hin, rfl⟩ := hrel
                  have HI := hide hin
                  clear hin
                  by_cases hky : k < y
                  · obtain ⟨b2, o2, rfl, hc2⟩ := h2.2.2.2 (by omega)
                    have kk := hc2 k (by omega)
                    have HC2 := hide hc2
                    clear hc2
                    have hsk := hsu k (by omega)
                    obtain ⟨z, hz⟩ : ∃ z, su k = z := ⟨_, rfl⟩
                    simp only [hz] at kk
                    rw [hz] at hsk
                    have HZ := hide hz
                    clear hz
                    have e2 : (k : Int) < (m : Int) := by omega
                    by_cases hz0 : z < 0
                    · go_wp2
                      go_ret
                      exact ⟨_, _, rfl, rfl, fun h => by cases h⟩
                    · by_cases hzn : (n : Int) ≤ z
                      · go_wp2
                        go_ret
                        exact ⟨_, _, rfl, rfl, fun h => by cases h⟩
                      · by_cases hxk : x < k
                        · have kk1 := unhide HC2 (k - 1) (by omega)
                          obtain ⟨z1, hz1⟩ : ∃ z, su (k - 1) = z := ⟨_, rfl⟩
                          simp only [hz1] at kk1
                          clear hz1
                          have e3 : (x : Int) < (k : Int) := by omega
                          have e4 : (k : Int) - 1 < (m : Int) := by omega
                          have e5 : (0 : Int) ≤ (k : Int) - 1 := by omega
                          have e6 : ((k : Int) - 1).toNat = k - 1 := by omega
                          go_wp2_with fail
                          go_quiet (fail)
                          by_cases hzz : z ≤ z1
                          · go_wp2
                            go_ret
                            exact ⟨_, q + nq, rfl, by rw [World.drewN_drewN], fun h => by cases h⟩
                          · go_wp2
                            go_roundw
                            case measure => simp [intOf]; omega
                            case rel =>
                              refine ⟨k + 1, _, by omega, by omega, by go_num, fun j h1 h2 => ?_, rfl⟩
                              by_cases e : j = k
                              · subst e; rw [unhide HZ]; omega
                              · exact unhide HI j h1 (by omega)
                        · have e3 : decide ((x : Int) < (k : Int)) = false := decide_eq_false (by omega)
                          go_wp2_with fail
                          go_quiet (fail)
                          go_wp2
                          go_roundw
                          case measure => simp [intOf]; omega
                          case rel =>
                            refine ⟨k + 1, _, by omega, by omega, by go_num, fun j h1 h2 => ?_, rfl⟩
                            by_cases e : j = k
                            · subst e; rw [unhide HZ]; omega
                            · exact unhide HI j h1 (by omega)
                  · have e : k = y := by omega
                    subst e
                    go_wp2
                    go_roundw
                    case measure => simp [intOf]; omega
                    case rel =>
                      refine ⟨v + 1, _, by omega, by go_num, fun u hu j h1 h2 => ?_, rfl⟩
                      by_cases e : u = v
                      · subst e; rw [unhide HX] at h1; rw [unhide HY] at h2; exact unhide HI j (by omega) (by omega)
                      · exact unhide HL u (by omega) j h1 h2
              · have e : n = v := by omega
                subst e
                go_wp2
                go_ret
                exact ⟨_, _, rfl, rfl, fun _ => ⟨rfl, unhide HS0, unhide HSN, unhide HM, unhide HL⟩⟩
      · have t1 : (st 0 != 0) = false := by simp [hs0]
        have t2 : (st n != (m : Int)) = true := by simp [hsn]
        clear hs0 hsn
        go_enter Try.func13, Try.ntmps13
        go_wp2
        go_ret
        exact ⟨_, 0, rfl, rfl, fun h => by cases h⟩
    · have t1 : (st 0 != 0) = true := by simp [hs0]
      clear hs0
      go_enter Try.func13, Try.ntmps13
      go_wp2
      go_ret
      exact ⟨_, 0, rfl, rfl, fun h => by cases h⟩
  · have t0 : ((l1 : Int) != (n : Int) + 1) = true := by rw [bne_iff_ne]; omega
    go_enter Try.func13, Try.ntmps13
    go_wp2
    go_ret
    exact ⟨_, 0, rfl, rfl, fun h => by cases h⟩
end Go.Proofs.Qxb6612831a
