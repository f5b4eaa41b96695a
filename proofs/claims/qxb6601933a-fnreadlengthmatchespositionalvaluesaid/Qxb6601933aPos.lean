/-
  THE WALK OF 'FnReadLengthMatchesPositionalValue'.
-/
import Derived.Test.Qxb6601933aLead
namespace Go.Proofs.Qxb6601933a
open Go.RowKit Plain

theorem zz12_yes (a : Option Addr) (n c : Nat) (w : World) (h : n ≤ 1048576) :
    Calls Try.prog 12 #[.slice a n c] w fun e w' => e = .returned (.bool true) ∧ w = w' := by
  have h' : ¬ (1048576 : Int) < (n : Int) := by omega
  go_enter Try.func12, Try.ntmps12
  go_wp2
  go_ret
  exact ⟨rfl, rfl⟩

theorem zz12_no (a : Option Addr) (n c : Nat) (w : World) (h : 1048576 < n) :
    Calls Try.prog 12 #[.slice a n c] w fun e w' => e = .returned (.bool false) ∧ w = w' := by
  have h' : (1048576 : Int) < (n : Int) := by omega
  go_enter Try.func12, Try.ntmps12
  go_wp2
  go_ret
  exact ⟨rfl, rfl⟩

theorem pos_big (a : Option Addr) (n c : Nat) (w : World) (h : 1048576 < n) :
    Calls Try.prog 3 #[.slice a n c] w fun e w' => e = .returned (.bool true) ∧ Below w.heap.size w w' := by
  go_enter Try.func3, Try.ntmps3
  go_wp2_with fail
  refine (zz12_no _ _ _ _ h).mono ?_
  rintro e w' ⟨rfl, rfl⟩
  go_wp2_with fail
  go_ret
  exact ⟨rfl, Below.refl _ _⟩

theorem mul_bd (c P : Int) (h1 : 48 ≤ c) (h2 : c ≤ 57) (p1 : 1 ≤ P) : 0 ≤ (c - 48) * P ∧ (c - 48) * P ≤ 9 * P :=
  ⟨Int.mul_nonneg (by omega) (by omega), Int.mul_le_mul_of_nonneg_right (by omega) (by omega)⟩

theorem pow_pos1 (d : Nat) : (1 : Int) ≤ 10 ^ d := by
  have : (0 : Int) < 10 ^ d := Int.pow_pos (by decide)
  omega

/-- The relation of the second loop: j digits are still to be added. -/
def Rest (f : Nat → Int) (n j : Nat) (T P : Int) : Prop := j ≤ n ∧ P = 10 ^ (n - j) ∧ val f n = val f j * P + T ∧ 0 ≤ T ∧ T < P

theorem rest_start (f : Nat → Int) (n : Nat) : Rest f n n 0 1 := ⟨Nat.le_refl _, by simp, by omega, by decide, by decide⟩

theorem rest_step {f : Nat → Int} {n j : Nat} {T P : Int} (h : Rest f n (j + 1) T P) (h1 : 48 ≤ f j) (h2 : f j ≤ 57) : Rest f n j (T + (f j - 48) * P) (P * 10) := by
  obtain ⟨a, b, c, d, e⟩ := h
  have hm := mul_bd (f j) P h1 h2 (by omega)
  refine ⟨by omega, ?_, ?_, by omega, by omega⟩
  · have : n - j = (n - (j + 1)) + 1 := by omega
    rw [this, Int.pow_succ, b]
  · rw [c]
    simp only [val]
    rw [Int.add_mul, Int.mul_comm 10 (val f j), Int.mul_assoc, Int.mul_comm 10 P]
    omega

theorem rest_end {f : Nat → Int} {n : Nat} {T P : Int} (h : Rest f n 0 T P) : val f n = T := by
  have := h.2.2.1
  simpa [val] using this

/-- The first loop's relation. -/
def Sofar (f : Nat → Int) (n k : Nat) (b : Bool) : Prop := if b = true then 1 ≤ n ∧ n ≤ 12 ∧ Digs f k else ¬ DecOk f n

theorem notdec_nil {f : Nat → Int} {n : Nat} (h : n = 0 ∨ 12 < n) : ¬ DecOk f n := fun ⟨a, b, _⟩ => by omega


set_option maxHeartbeats 400000 in
theorem pos_nil (w : World) :
    Calls Try.prog 3 #[.slice none 0 0] w fun e w' => e = .returned (.bool true) ∧ Below w.heap.size w w' := by
  go_enter Try.func3, Try.ntmps3
  go_wp2_with fail
  refine (zz12_yes _ _ _ _ (by decide)).mono ?_
  rintro e w' ⟨rfl, rfl⟩
  go_wp2_with fail
  refine (clone_nil w).mono ?_
  rintro e w1 ⟨rfl, rfl⟩
  go_wp2_with fail
  refine (zread_short _ _ _ _ (.inl rfl)).mono ?_
  rintro e w' ⟨rfl, rfl⟩
  go_wp2_with fail
  go_rounds 1
  go_ret
  exact ⟨rfl, Below.refl _ _⟩

set_option maxHeartbeats 800000 in
theorem pos_some (x : Addr) (n c : Nat) (f : Nat → Int) (w : World) (hn : n ≤ 1048576) (hb : Bytes w (some x) n f) :
    Calls Try.prog 3 #[.slice (some x) n c] w fun e w' => e = .returned (.bool true) ∧ Below w.heap.size w w' := by
  have HB : Hid (Bytes w (some x) n f) := hb
  clear hb
  have hn' : ¬ (1048576 : Int) < (n : Int) := by omega
  obtain ⟨N, B, ha⟩ := ans_ex f n
  have HA : Hid (Ans f n N B) := ha
  clear ha
  go_enter Try.func3, Try.ntmps3
  go_wp2_with fail
  refine (zz12_yes _ _ _ _ hn).mono ?_
  rintro e w' ⟨rfl, rfl⟩
  go_wp2_with fail
  refine (clone_some x n c f w hn HB.out).mono ?_
  rintro e w1 ⟨rfl, r1, b1, s1⟩
  have HR : Hid (Row w1 w.heap.size n f) := r1
  have HB1 : Hid (Below w.heap.size w w1) := b1
  clear r1 b1 s1
  go_wp2_with fail
  refine (zread_ans _ _ _ f _ N B HR.out.bytes HA.out).mono ?_
  rintro e w' ⟨rfl, rfl⟩
  by_cases hlen : 1 ≤ n ∧ n ≤ 12
  · obtain ⟨l1, l2⟩ := hlen
    go_wp2_with fail
    go_loop [5, 6] (fun b i => ∃ (k : Nat) (v : Bool), k ≤ n ∧ i = .int .i64 k ∧ b = .bool v ∧ Sofar f n k v) (fun _ i => n - (intOf i).toNat)
    case atStart => exact ⟨0, true, Nat.zero_le _, rfl, by simp; omega, by simp [Sofar, l1, l2, Digs]⟩
    case round =>
      obtain ⟨k, v, hk, rfl, rfl, hs⟩ := hrel
      cases v with
      | false =>
        have hd : ¬ DecOk f n := by simpa [Sofar] using hs
        have hNB : N = -1 ∧ B = false := by
          rcases HA.out with ⟨h, _, _⟩ | ⟨_, h⟩
          · exact absurd h hd
          · exact h
        obtain ⟨rfl, rfl⟩ := hNB
        clear hs hd
        go_wp2
        go_ret
        exact ⟨rfl, HB1.out⟩
      | true =>
        have hd : Digs f k := by
          simp [Sofar] at hs
          exact hs.2.2
        clear hs
        by_cases hlt : k < n
        · have hcell := HR.out.cell k hlt
          by_cases d1 : 48 ≤ f k
          · by_cases d2 : f k ≤ 57
            · have HS : Hid (Sofar f n (k + 1) true) := by
                show Sofar f n (k + 1) true
                simp only [Sofar, if_true]
                exact ⟨l1, l2, digs_succ hd d1 d2⟩
              clear hd
              go_wp2
              go_round
              case rel => exact ⟨k + 1, true, by omega, by go_num, rfl, HS.out⟩
              case measure => simp [intOf]; omega
            · have HS : Hid (Sofar f n (k + 1) false) := by
                show Sofar f n (k + 1) false
                simp only [Sofar]
                exact fun h => by have := h.2.2 k hlt; omega
              clear hd
              go_wp2
              go_round
              case rel => exact ⟨k + 1, false, by omega, by go_num, rfl, HS.out⟩
              case measure => simp [intOf]; omega
          · have HS : Hid (Sofar f n (k + 1) false) := by
              show Sofar f n (k + 1) false
              simp only [Sofar]
              exact fun h => by have := h.2.2 k hlt; omega
            clear hd
            go_wp2
            go_round
            case rel => exact ⟨k + 1, false, by omega, by go_num, rfl, HS.out⟩
            case measure => simp [intOf]; omega
        · have e : k = n := by omega
          subst e
          have hNB : N = val f k ∧ B = true := by
            rcases HA.out with ⟨_, h⟩ | ⟨h, _⟩
            · exact h
            · exact absurd ⟨l1, l2, hd⟩ h
          obtain ⟨hN, rfl⟩ := hNB
          have HN : Hid (N = val f k) := hN
          have HD : Hid (Digs f k) := hd
          clear hN hd HA
          go_wp2
          go_loop [7, 8, 9] (fun t p i => ∃ (j : Nat) (T P : Int), t = .int .i64 T ∧ p = .int .i64 P ∧ i = .int .i64 ((j : Int) - 1) ∧ Rest f k j T P) (fun _ _ i => (intOf i + 1).toNat)
          case atStart => exact ⟨k, 0, 1, rfl, rfl, rfl, rest_start f k⟩
          case round =>
            obtain ⟨j, T, P, rfl, rfl, rfl, hr⟩ := hrel
            match j, hr with
            | 0, hr =>
              have hNT : (N == T) = true := by rw [HN.out, rest_end hr]; simp
              clear hr
              go_wp2
              go_ret
              exact ⟨rfl, HB1.out⟩
            | j + 1, hr =>
              have hjk := hr.1
              have hP : P ≤ 100000000000 := by rw [hr.2.1]; exact pow_le11 (by omega)
              have hP1 : 1 ≤ P := by rw [hr.2.1]; exact pow_pos1 _
              have hT0 := hr.2.2.2.1
              have hT1 := hr.2.2.2.2
              obtain ⟨d1, d2⟩ := HD.out j (by omega)
              obtain ⟨m1, m2⟩ := mul_bd (f j) P d1 d2 hP1
              have hcell := HR.out.cell j (by omega)
              have HQ : Hid (Rest f k j (T + (f j - 48) * P) (P * 10)) := rest_step hr d1 d2
              have ej : ((j + 1 : Nat) : Int) - 1 = (j : Int) := by omega
              rw [ej]
              clear hr ej
              go_wp2
              go_round
              case rel => exact ⟨j, _, _, rfl, rfl, rfl, HQ.out⟩
              case measure => simp [intOf]
  · have hNB : N = -1 ∧ B = false := by
      rcases HA.out with ⟨h, _, _⟩ | ⟨_, h⟩
      · exact absurd ⟨h.1, h.2.1⟩ hlen
      · exact h
    obtain ⟨rfl, rfl⟩ := hNB
    clear HA
    by_cases h0 : 1 ≤ n
    · have hw : ¬ (n : Int) ≤ 12 := by omega
      clear hlen
      go_wp2
      go_rounds 1
      go_ret
      exact ⟨rfl, HB1.out⟩
    · have e : n = 0 := by omega
      subst e
      clear hlen
      go_wp2
      go_rounds 1
      go_ret
      exact ⟨rfl, HB1.out⟩

end Go.Proofs.Qxb6601933a
