import Derived.Test.Qxb6612903aFind
import Derived.Laws.CopyOwn
import Derived.Deep.OwnRows
namespace Go.Proofs.Qxb6612903a
open Go.RowKit Go.Maps
set_option linter.unusedVariables false

theorem info5 : (Try.prog.info? 5).map (fun i => (i.zero, i.size, i.bytes)) = some (some (.int .u8 0), 1, 1) := by kernel_rfl
theorem info9 : (Try.prog.info? 9).map (fun i => (i.zero, i.size, i.bytes)) = some (some (.string ByteArray.empty), 1, 16) := by kernel_rfl

/-- 'copy(c, s)' into a row of the call's own, as long as s. -/
theorem wpList_copy_new {P : Program} (w : World) {ops : Array Oper} {rest : List Oper} {o : Oper} {a : Act} {Q : Exit → Act → World → Prop} (hgd : o.guard = none) (d s : Operand) (T : TypeId)
    (ho : o.op = .call { callee := .builtin .copy, args := #[d, s], argTypes := #[T, T] }) (elem : TypeId) (hu : P.underlying T = some (.slice elem)) (hsz : (P.info? elem).map (·.size) = some 1)
    (g n cap : Nat) (z : Nat → Value) (hd : a.eval d = .slice (some ⟨g, 0, none⟩) n n) (hA : Arr w g elem n n z) (ad : Option Addr) (f : Nat → Value) (hs : a.eval s = .slice ad n cap) (hS : Sl w ad n cap f) (h1 : ∀ i, i < n → (f i).oneCell' = true)
    (h : ∀ w', Arr w' g elem n n f → Fr [g] w w' → wpList P ops Q rest (a.put o.dst (goInt n)) w') : wpList P ops Q (o :: rest) a w := by
  by_cases h0 : n = 0
  · subst h0
    exact wpList_copy_nothing hgd d s T T ho elem hu hsz (some ⟨g, 0, none⟩) ad 0 0 0 cap hd hs rfl (h w (hA.congr (fun i hi => by omega)) (Fr.refl _ _))
  · obtain ⟨b, off, rfl, hc⟩ := hS.2.2.2 (by omega)
    obtain ⟨cur, hg, hcs, _, hm, hf⟩ := hA
    have hlen : ((List.range n).map f).length = n := by simp
    refine wpList_copy_own hgd d s T T ho elem hu hsz g 0 n n ⟨b, off, none⟩ n cap hd hs cur elem hg ((List.range n).map f) (by simp) ?_ (by simp; omega) ?_ ?_
    · intro j v hj
      by_cases hjn : j < n
      · simp [hjn] at hj; subst hj
        rw [Addr.add_lit]; exact hc j hjn
      · simp [hjn] at hj
    · intro v hv
      simp only [List.mem_map, List.mem_range] at hv
      obtain ⟨i, hi, rfl⟩ := hv
      exact h1 i hi
    · rw [hlen]
      refine h _ ?_ ⟨rfl, rfl, rfl, by simp [World.setRow], fun k hk hS => setRow_other w g k _ (by simpa using hS)⟩
      refine ⟨_, setRow_heap w g _ _ elem _ hg, by simp; omega, Nat.le_refl _, hm, fun i hi => ?_⟩
      rw [List.getElem?_toArray, List.take_zero, List.nil_append, List.getElem?_append_left (by simpa using hi)]
      simp [hi]

set_option maxHeartbeats 1000000 in
theorem find6 (a0 : Option Addr) (n0 c0 : Nat) (x : Nat → Int) (a1 : Option Addr) (n c1 : Nat) (f : Nat → ByteArray) (w : World) (hn : n ≤ 2000000)
    (hs : Sl w a1 n c1 (fun i => .string (f i))) (hk : Sl w a0 n0 c0 (fun i => .int .u8 (x i))) (hb1 : ∀ y, a1 = some y → y.block < w.heap.size) (hb0 : ∀ y, a0 = some y → y.block < w.heap.size)
    (hf : ∀ i, i < n → (f i).size ≤ maxLen) (hx : (strOf n0 x).size ≤ maxLen) :
    Calls Try.prog 6 #[.slice a0 n0 c0, .slice a1 n c1] w fun e w' => e = .returned (.int .i64 (findF (strOf n0 x) f n)) ∧ Below w.heap.size w w' := by
  have hF : Fr [] w ((w.alloc (.cells #[.slice a1 n c1] 23)).alloc (.cells #[.map none] 28)) := ((Fr.refl _ _).alloc _).alloc _
  have e1 : (w.alloc (.cells #[.slice a1 n c1] 23)).heap.size = w.heap.size + 1 := by simp
  have hA : Arr ((w.alloc (.cells #[.slice a1 n c1] 23)).alloc (.cells #[.map none] 28)) (w.heap.size + 1) 28 1 1 (fun _ => .map none) := by
    rw [← e1]
    exact ⟨_, heap_alloc_new _ _, rfl, Nat.le_refl _, by decide, fun i hi => by have : i = 0 := by omega
                                                                                subst this; rfl⟩
  have hK : ((w.alloc (.cells #[.slice a1 n c1] 23)).alloc (.cells #[.map none] 28)).cell? ⟨w.heap.size, 0, none⟩ = some (.slice a1 n c1) := by
    have h0 : (w.alloc (.cells #[.slice a1 n c1] 23)).cell? ⟨w.heap.size, 0, none⟩ = some (.slice a1 n c1) := by simp
    exact ((Fr.refl [] _).alloc _).cell h0 (by simp)
  have C := hide (find9 (w.heap.size + 1) w.heap.size a0 n0 c0 x a1 n c1 f _ hn (by omega) hA hK (hs.keptF hF (by simp)) (hk.keptF hF (by simp)) (fun y hy => by have := hb1 y hy; omega) (fun y hy => by have := hb0 y hy; omega) hf hx)
  clear hA hK e1
  go_enter Try.func6, Try.ntmps6
  go_wp2_with fail
  refine (unhide C).mono ?_
  rintro e w' ⟨rfl, hFr⟩
  go_wp2
  go_ret
  refine ⟨rfl, (hF.trans hFr (by simp)).below (Nat.le_refl _) (by simp)⟩

set_option maxHeartbeats 1000000 in
theorem last7 (a0 : Option Addr) (n0 c0 : Nat) (x : Nat → Int) (a1 : Option Addr) (n c1 : Nat) (f : Nat → ByteArray) (w : World) (hn : n ≤ 2000000)
    (hs : Sl w a1 n c1 (fun i => .string (f i))) (hk : Sl w a0 n0 c0 (fun i => .int .u8 (x i))) :
    Calls Try.prog 7 #[.slice a0 n0 c0, .slice a1 n c1] w fun e w' => e = .returned (.int .i64 (lastIdx (strOf n0 x) f n)) ∧ w' = w := by
  have hcv : (convert 22 9 (.slice a0 n0 c0)).run Try.prog w = .ok (.string (strOf n0 x)) w := conv_sl hk 0
  obtain ⟨K, hK⟩ : ∃ K, strOf n0 x = K := ⟨_, rfl⟩
  rw [hK] at hcv
  rw [hK]
  clear hK
  go_enter Try.func7, Try.ntmps7
  go_wp2
  clear hcv
  go_loop [6] (fun i => ∃ j : Nat, j ≤ n ∧ i = .int .i64 ((j : Int) - 1) ∧ lastIdx K f n = lastIdx K f j) (fun i => (intOf i + 1).toNat)
  case atStart => exact ⟨n, Nat.le_refl _, rfl, rfl⟩
  case round =>
    obtain ⟨j, hj, rfl, hl⟩ := hrel
    have HL := hide hl
    clear hl
    cases j with
    | zero =>
      go_wp2
      go_ret
      exact ⟨ret_int (by rw [unhide HL]; rfl), rfl⟩
    | succ j =>
      have e0 : (((j + 1 : Nat) : Int) - 1) = (j : Int) := by omega
      rw [e0]
      obtain ⟨b, off, rfl, hc⟩ := hs.2.2.2 (by omega)
      have kj := hc j (by omega)
      clear hc e0
      have e1 : (j : Int) < (n : Int) := by omega
      cases hb : ((f j).toList == K.toList) with
      | true =>
        have HF : Hid ((j : Int) = lastIdx K f n) := by
          show _ = _
          rw [unhide HL]; simp [lastIdx, eqB, hb]
        go_wp2
        go_ret
        exact ⟨ret_int (unhide HF), rfl⟩
      | false =>
        have HF : Hid (lastIdx K f n = lastIdx K f j) := by
          show _ = _
          rw [unhide HL]; simp [lastIdx, eqB, hb]
        go_wp2
        go_round
        case rel => exact ⟨j, by omega, rfl, unhide HF⟩
        case measure => simp [intOf]

/-- a bool; where it is true all are short. -/
def BytesPost (n0 n : Nat) (f : Nat → ByteArray) (e : Ending) : Prop := ∃ b, e = .returned (.bool b) ∧ (b = true → n0 ≤ 1048576 ∧ n ≤ 1048576 ∧ ∀ i, i < n → (f i).size ≤ 1048576)

set_option maxHeartbeats 1000000 in
theorem bytes5 (a0 : Option Addr) (n0 c0 : Nat) (a1 : Option Addr) (n c1 : Nat) (f : Nat → ByteArray) (w : World) (h0 : n0 ≤ maxLen) (h1 : n ≤ maxLen)
    (hs : Sl w a1 n c1 (fun i => .string (f i))) (hf : ∀ i, i < n → (f i).size ≤ maxLen) :
    Calls Try.prog 5 #[.slice a0 n0 c0, .slice a1 n c1] w fun e w' => BytesPost n0 n f e ∧ w' = w := by
  unfold maxLen at h0 h1
  by_cases hbig : n0 ≤ 1048576 ∧ n ≤ 1048576
  · go_enter Try.func5, Try.ntmps5
    go_wp2
    · go_ret
      exact ⟨⟨_, rfl, fun h => (by cases h)⟩, rfl⟩
    · go_loop [5, 6] (fun t i => ∃ (k : Nat) (z : Int), k ≤ n ∧ i = .int .i64 k ∧ t = .int .i64 z ∧ 0 ≤ z ∧ z ≤ 1048576 ∧ ∀ j, j < k → (f j).size ≤ 1048576) (fun _ i => n - (intOf i).toNat)
      case atStart => exact ⟨0, _, Nat.zero_le _, rfl, rfl, by omega, by omega, fun j hj => by omega⟩
      case round =>
        obtain ⟨k, z, hk, rfl, rfl, hz0, hz1, hall⟩ := hrel
        have HALL := hide hall
        clear hall
        by_cases hlt : k < n
        · obtain ⟨b, off, rfl, hc⟩ := hs.2.2.2 (by omega)
          have kk := hc k hlt
          have hfk := hf k hlt
          unfold maxLen at hfk
          obtain ⟨s, hsd⟩ : ∃ s, f k = s := ⟨_, rfl⟩
          simp only [hsd] at kk hfk
          have HSD := hide hsd
          clear hc hsd
          have e1 : (k : Int) < (n : Int) := by omega
          by_cases hsz : s.size ≤ 1048576
          · go_wp2
            · go_ret
              exact ⟨⟨_, rfl, fun h => (by cases h)⟩, rfl⟩
            · refine ⟨⟨k + 1, _, by omega, by go_num, rfl, by omega, by omega, fun j hj => ?_⟩, by simp [intOf]; omega⟩
              by_cases e : j = k
              · subst e; rw [unhide HSD]; exact hsz
              · exact unhide HALL j (by omega)
          · go_wp2
            go_ret
            exact ⟨⟨_, rfl, fun h => (by cases h)⟩, rfl⟩
        · have e : n = k := by omega
          subst e
          go_wp2
          go_ret
          exact ⟨⟨_, rfl, fun _ => ⟨hbig.1, hbig.2, unhide HALL⟩⟩, rfl⟩
  · go_enter Try.func5, Try.ntmps5
    go_wp2
    all_goals first | (go_ret; exact ⟨⟨_, rfl, fun h => (by cases h)⟩, rfl⟩) | (exfalso; omega)

set_option maxHeartbeats 1000000 in
theorem bytes8 (a0 : Option Addr) (n0 c0 : Nat) (a1 : Option Addr) (n c1 : Nat) (f : Nat → ByteArray) (w : World) (h0 : n0 ≤ maxLen) (h1 : n ≤ maxLen)
    (hs : Sl w a1 n c1 (fun i => .string (f i))) (hf : ∀ i, i < n → (f i).size ≤ maxLen) :
    Calls Try.prog 8 #[.slice a0 n0 c0, .slice a1 n c1] w fun e w' => BytesPost n0 n f e ∧ w' = w := by
  unfold maxLen at h0 h1
  by_cases hbig : n0 ≤ 1048576 ∧ n ≤ 1048576
  · go_enter Try.func8, Try.ntmps8
    go_wp2
    · go_ret
      exact ⟨⟨_, rfl, fun h => (by cases h)⟩, rfl⟩
    · go_loop [5, 6] (fun t i => ∃ (k : Nat) (z : Int), k ≤ n ∧ i = .int .i64 k ∧ t = .int .i64 z ∧ 0 ≤ z ∧ z ≤ 1048576 ∧ ∀ j, j < k → (f j).size ≤ 1048576) (fun _ i => n - (intOf i).toNat)
      case atStart => exact ⟨0, _, Nat.zero_le _, rfl, rfl, by omega, by omega, fun j hj => by omega⟩
      case round =>
        obtain ⟨k, z, hk, rfl, rfl, hz0, hz1, hall⟩ := hrel
        have HALL := hide hall
        clear hall
        by_cases hlt : k < n
        · obtain ⟨b, off, rfl, hc⟩ := hs.2.2.2 (by omega)
          have kk := hc k hlt
          have hfk := hf k hlt
          unfold maxLen at hfk
          obtain ⟨s, hsd⟩ : ∃ s, f k = s := ⟨_, rfl⟩
          simp only [hsd] at kk hfk
          have HSD := hide hsd
          clear hc hsd
          have e1 : (k : Int) < (n : Int) := by omega
          by_cases hsz : s.size ≤ 1048576
          · go_wp2
            · go_ret
              exact ⟨⟨_, rfl, fun h => (by cases h)⟩, rfl⟩
            · refine ⟨⟨k + 1, _, by omega, by go_num, rfl, by omega, by omega, fun j hj => ?_⟩, by simp [intOf]; omega⟩
              by_cases e : j = k
              · subst e; rw [unhide HSD]; exact hsz
              · exact unhide HALL j (by omega)
          · go_wp2
            go_ret
            exact ⟨⟨_, rfl, fun h => (by cases h)⟩, rfl⟩
        · have e : n = k := by omega
          subst e
          go_wp2
          go_ret
          exact ⟨⟨_, rfl, fun _ => ⟨hbig.1, hbig.2, unhide HALL⟩⟩, rfl⟩
  · go_enter Try.func8, Try.ntmps8
    go_wp2
    all_goals first | (go_ret; exact ⟨⟨_, rfl, fun h => (by cases h)⟩, rfl⟩) | (exfalso; omega)
end Go.Proofs.Qxb6612903a
