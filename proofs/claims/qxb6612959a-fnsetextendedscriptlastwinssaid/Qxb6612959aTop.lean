import Derived.Test.Qxb6612959aBook
import Derived.LaidEqlPtr
namespace Go.Proofs.Qxb6612959a
open Go.RowKit Go.Maps
set_option linter.unusedVariables false

theorem neq_ptr_same (w : World) (tp te : TypeId) (a : Addr) (hp : Try.prog.underlying tp = some (.pointer te)) (hs : (Try.prog.info? te).isSome = true) :
    (binOp .neq tp (.pointer (some a)) (.pointer (some a))).run Try.prog w = .ok (.bool false) w := by
  obtain ⟨j, hj⟩ := Option.isSome_iff_exists.1 hs
  have h : ∀ d : Nat, (Op.equalIn (d + 1) tp (.pointer (some a)) (.pointer (some a))).run Try.prog w = .ok true w := fun d => by
    simp [Op.equalIn, run_underlying hp, sizeOf, typeInfo, hj, run_sameAddr_same]
  simp only [binOp]
  simp [Op.equal, Op.maxDepth, h 9999]
theorem some38 : (Try.prog.info? 38).isSome = true := by kernel_rfl
theorem some28 : (Try.prog.info? 28).isSome = true := by kernel_rfl

theorem cell_lit (w : World) (cs : Array Value) (ty : TypeId) (i : Nat) : (w.alloc (.cells cs ty)).cell? ⟨w.heap.size, i, none⟩ = cs[i]? := cell_of_row _ _ _ cs ty (0, 0) (heap_alloc_new w _)
theorem free_lit (w : World) (cs : Array Value) (ty : TypeId) (i : Nat) : (w.alloc (.cells cs ty)).frozen? ⟨w.heap.size, i, none⟩ = false := frozen_of_row _ _ _ cs ty (heap_alloc_new w _)

theorem BSt.start (w : World) (eff od : Int) (x : Value) (ct : Array Value) (h5 : ct[5]? = some (.pointer (some ⟨w.heap.size, 0, none⟩))) :
    BSt w (((w.alloc (.cells #[.int .i32 eff, .int .i64 od, x] 28)).alloc (.cells ct 38)).alloc (.cells (newCells (w.heap.size + 1) x) 45)) w.heap.size (w.heap.size + 1) (w.heap.size + 1 + 1) eff od x := by
  have e1 : (w.alloc (.cells #[.int .i32 eff, .int .i64 od, x] 28)).heap.size = w.heap.size + 1 := by simp
  have e2 : ((w.alloc (.cells #[.int .i32 eff, .int .i64 od, x] 28)).alloc (.cells ct 38)).heap.size = w.heap.size + 1 + 1 := by simp
  have F1 := (Fr.refl [] (w.alloc (.cells #[.int .i32 eff, .int .i64 od, x] 28))).alloc (.cells ct 38)
  have F2 := (Fr.refl [] ((w.alloc (.cells #[.int .i32 eff, .int .i64 od, x] 28)).alloc (.cells ct 38))).alloc (.cells (newCells (w.heap.size + 1) x) 45)
  have F12 := F1.trans' F2
  have hb : ∀ i v, (newCells (w.heap.size + 1) x)[i]? = some v → (((w.alloc (.cells #[.int .i32 eff, .int .i64 od, x] 28)).alloc (.cells ct 38)).alloc (.cells (newCells (w.heap.size + 1) x) 45)).cell? ⟨w.heap.size + 1 + 1, i, none⟩ = some v := fun i v h => by
    rw [← e2, cell_lit]; exact h
  have ht : ∀ i v, ct[i]? = some v → (((w.alloc (.cells #[.int .i32 eff, .int .i64 od, x] 28)).alloc (.cells ct 38)).alloc (.cells (newCells (w.heap.size + 1) x) 45)).cell? ⟨w.heap.size + 1, i, none⟩ = some v := fun i v h => by
    have : ((w.alloc (.cells #[.int .i32 eff, .int .i64 od, x] 28)).alloc (.cells ct 38)).cell? ⟨w.heap.size + 1, i, none⟩ = some v := by rw [← e1, cell_lit]; exact h
    exact F2.cell this (by simp)
  have ho : ∀ i v, (#[.int .i32 eff, .int .i64 od, x] : Array Value)[i]? = some v → (((w.alloc (.cells #[.int .i32 eff, .int .i64 od, x] 28)).alloc (.cells ct 38)).alloc (.cells (newCells (w.heap.size + 1) x) 45)).cell? ⟨w.heap.size, i, none⟩ = some v := fun i v h => by
    have : (w.alloc (.cells #[.int .i32 eff, .int .i64 od, x] 28)).cell? ⟨w.heap.size, i, none⟩ = some v := by rw [cell_lit]; exact h
    exact F12.cell this (by simp)
  refine ⟨hb 0 _ rfl, hb 4 _ rfl, ?_, ht 5 _ h5, ho 0 _ rfl, ho 1 _ rfl, ho 2 _ rfl, ?_, by omega, by omega, by omega, by omega, by omega, (((Below.refl _ _).alloc (Nat.le_refl _) _).alloc (by simp) _).alloc (by simp; omega) _⟩
  · rw [← e2]; exact free_lit _ _ _ _
  · rw [World.frozen?_of_block (w := w.alloc (.cells #[.int .i32 eff, .int .i64 od, x] 28)) (F12.block w.heap.size (by simp) (by simp))]
    exact free_lit _ _ _ _

set_option maxHeartbeats 4000000 in
set_option maxRecDepth 1000000 in
theorem top3 (a0 : Option Addr) (n c0 : Nat) (rs : Nat → Option Nat) (r : Option Nat) (a2 : Option Addr) (n2 c2 : Nat) (pr : Nat → Int) (eff od : Int) (w : World)
    (hs : Sl w a0 n c0 (fun i => .map (rs i))) (hM : ∀ i, i < n → MapV w (.map (rs i))) (hr : MapV w (.map r)) (hp : Sl w a2 n2 c2 (fun i => .int .i64 (pr i))) (hpw : ∀ i, i < n2 → (Lit.int .i64 (pr i)).wf = true) :
    Calls Try.prog 3 #[.slice a0 n c0, .map r, .slice a2 n2 c2, .int .i32 eff, .int .i64 od] w fun e w' => e = .returned (.bool true) ∧ Below w.heap.size w w' := by
  obtain ⟨L, hL⟩ := hr.len
  have hlen := hL w (Below.refl _ _)
  clear hL
  have b0 := Nat.le_trans hs.1 hs.2.1
  have b2 := Nat.le_trans hp.1 hp.2.1
  unfold maxLen at b0 b2
  by_cases hbig : n2 ≤ 4096 ∧ n ≤ 4096 ∧ L ≤ 65536
  · obtain ⟨hn2, hn, hL⟩ := hbig
    by_cases htot : 8 * n2 + 16 * L ≤ 1048576
    · have d1 : decide ((4096 : Int) < (n2 : Int)) = false := decide_eq_false (by omega)
      have d2 : decide ((4096 : Int) < (n : Int)) = false := decide_eq_false (by omega)
      have d3 : decide ((65536 : Int) < (L : Int)) = false := decide_eq_false (by omega)
      have d4 : decide ((1048576 : Int) < 8 * (n2 : Int) + 16 * (L : Int)) = false := decide_eq_false (by omega)
      go_enter Try.func3, Try.ntmps3
      go_wp2
      go_loop [11, 12] (fun t i => ∃ (k : Nat) (z : Int), k ≤ n ∧ i = .int .i64 k ∧ t = .int .i64 z ∧ 0 ≤ z ∧ z ≤ 1048576) (fun _ i => n - (intOf i).toNat)
      case atStart => exact ⟨0, _, Nat.zero_le _, rfl, rfl, by omega, by omega⟩
      case round =>
        obtain ⟨k, z, hk, rfl, rfl, hz0, hz1⟩ := hrel
        by_cases hlt : k < n
        · obtain ⟨b, off, rfl, hc⟩ := hs.2.2.2 (by omega)
          have kk := hc k hlt
          obtain ⟨Lk, hLk⟩ := (hM k hlt).len
          have hlk := hLk w (Below.refl _ _)
          obtain ⟨rk, hrk⟩ : ∃ x, rs k = x := ⟨_, rfl⟩
          simp only [hrk] at kk hlk
          clear hc hLk hrk
          have e1 : (k : Int) < (n : Int) := by omega
          by_cases hsz : Lk ≤ 65536
          · go_wp2
            all_goals first | (go_ret; exact ⟨rfl, Below.refl _ _⟩) | exact ⟨⟨k + 1, _, by omega, by go_num, rfl, by omega, by omega⟩, by simp [intOf]; omega⟩
          · go_wp2
            go_ret
            exact ⟨rfl, Below.refl _ _⟩
        · have e : n = k := by omega
          subst e
          clear hlen
          go_wp2_with fail
          refine (new4 _ _ _).mono ?_
          rintro e w3 ⟨rfl, hw3⟩
          have hB3 := BSt.start w eff od (.map r) #[.int .i64 0, .int .i64 0, .int .i64 0, .pointer none, .pointer none, .pointer (some ⟨w.heap.size, 0, none⟩), .pointer none, .map none, .bool false, .slice none 0 0] rfl
          have e2 : ((w.alloc (.cells #[.int .i32 eff, .int .i64 od, .map r] 28)).alloc (.cells #[.int .i64 0, .int .i64 0, .int .i64 0, .pointer none, .pointer none, .pointer (some ⟨w.heap.size, 0, none⟩), .pointer none, .map none, .bool false, .slice none 0 0] 38)).heap.size = w.heap.size + 1 + 1 := by simp
          rw [e2]
          rw [← hw3] at hB3
          clear hw3 e2
          generalize w.heap.size + 1 + 1 = bb at hB3 ⊢
          generalize w.heap.size + 1 = tb at hB3 ⊢
          by_cases hn0 : n = 0
          · have hb0 : ((n : Int) == 0) = true := by simp [hn0]
            clear hn0
            have o2 := hB3.o2
            have C5 := hide (reads5 r a2 n2 c2 pr w3 (hr.kept hB3.bel) (hp.kept hB3.bel) hpw hn2)
            go_wp2_with fail
            refine (ext6 bb r w3 hB3.b4).mono ?_
            rintro e w4 ⟨rfl, hw4⟩
            obtain rfl : w3 = w4 := hw4.symm
            clear hw4
            go_wp2_with fail
            refine (unhide C5).mono ?_
            rintro e w4 ⟨rfl, hw4⟩
            obtain rfl : w3 = w4 := hw4.symm
            clear hw4
            go_wp2_with fail
            refine (unhide C5).mono ?_
            rintro e w4 ⟨rfl, hw4⟩
            obtain rfl : w3 = w4 := hw4.symm
            clear hw4
            go_wp2
            go_ret
            exact ⟨rfl, hB3.bel⟩
          · have hb0 : ((n : Int) == 0) = false := by simp; omega
            clear hn0
            go_wp2
            go_loopw [16] (fun i wr => ∃ (k : Nat) (x : Option Nat), k ≤ n ∧ i = .int .i64 k ∧ BSt w wr w.heap.size tb bb eff od (.map x)) (fun i _ => n - (intOf i).toNat)
            case atStart => exact ⟨0, r, Nat.zero_le _, rfl, hB3⟩
            case round =>
              obtain ⟨k, x, hk2, rfl, hB⟩ := hrel
              clear hB3
              by_cases hlt : k < n
              · obtain ⟨b, off, rfl, hc⟩ := hs.2.2.2 (by omega)
                have kw := hc k hlt
                have hMk := hM k hlt
                obtain ⟨rk, hrk⟩ : ∃ x, rs k = x := ⟨_, rfl⟩
                simp only [hrk] at kw hMk
                clear hc hrk
                have KW := hide kw
                clear kw
                have kk : wr.cell? ⟨b, off + k, none⟩ = some (.map rk) := (hB.bel.cell (p := ⟨b, off + k, none⟩) (cell_lt (unhide KW))).trans (unhide KW)
                have e1 : (k : Int) < (n : Int) := by omega
                have C7 := hide (set7 w wr w.heap.size tb bb eff od x rk hB)
                have hB4 := hB.set (.map rk)
                clear hB
                go_wp2_with fail
                refine (unhide C7).mono ?_
                clear C7
                rintro e w4 ⟨rfl, hw4⟩
                rw [← hw4] at hB4
                have kk4 : w4.cell? ⟨b, off + k, none⟩ = some (.map rk) := (hB4.bel.cell (p := ⟨b, off + k, none⟩) (cell_lt (unhide KW))).trans (unhide KW)
                clear hw4 kk
                have o2 := hB4.o2
                have C6 := hide (fun j => ext6 bb rk (w4.drewN j) (hB4.drewN j).b4)
                have C5 := hide (fun j => reads5 rk a2 n2 c2 pr (w4.drewN j) (hMk.kept (hB4.drewN j).bel) (hp.kept (hB4.drewN j).bel) hpw hn2)
                go_wp2_with fail
                go_quiet ((first | (go_at_call 6; exact Calls.quiet_of_same (unhide C6 _)) | (go_at_call 5; exact Calls.quiet_of_same (unhide C5 _))))
                have q0 := hB4.b0
                have q5 := hB4.t5
                have p0 := hB4.o0
                have p1 := hB4.o1
                have hp29 := fun wx a => neq_ptr_same wx 29 38 a Try.underlying29 some38
                have hp25 := fun wx a => neq_ptr_same wx 25 28 a Try.underlying25 some28
                go_wp2
                go_roundw
                case measure => simp [intOf]; omega
                case rel => exact ⟨k + 1, rk, by omega, by go_num, hB4.drewN _⟩
              · go_wp2
                go_ret
                exact ⟨rfl, hB.bel⟩
    · go_enter Try.func3, Try.ntmps3
      go_wp2
      go_ret
      exact ⟨rfl, Below.refl _ _⟩
  · go_enter Try.func3, Try.ntmps3
    go_wp2
    all_goals first | (go_ret; exact ⟨rfl, Below.refl _ _⟩) | (exfalso; omega)
end Go.Proofs.Qxb6612959a
