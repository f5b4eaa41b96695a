/-
  THE WALK OF 'FnEqualFoldMatchesCaseTable'.
-/
import Derived.Test.Qxb6601933aFold
namespace Go.Proofs.Qxb6601933a
open Go.RowKit Plain

theorem zz18_yes (a : Option Addr) (n c : Nat) (s : ByteArray) (w : World) (h : n + s.size ≤ 1048576) :
    Calls Try.prog 18 #[.slice a n c, .string s] w fun e w' => e = .returned (.bool true) ∧ w = w' := by
  have h1 : ¬ (1048576 : Int) < (n : Int) := by omega
  have h2 : ¬ (1048576 : Int) < (s.size : Int) := by omega
  have h3 : ¬ (1048576 : Int) < (n : Int) + (s.size : Int) := by omega
  go_enter Try.func18, Try.ntmps18
  go_wp2
  go_ret
  exact ⟨rfl, rfl⟩

theorem zz18_no (a : Option Addr) (n c : Nat) (s : ByteArray) (w : World) (h : 1048576 < n + s.size) (hm : s.size ≤ maxLen) :
    Calls Try.prog 18 #[.slice a n c, .string s] w fun e w' => e = .returned (.bool false) ∧ w = w' := by
  unfold maxLen at hm
  by_cases h1 : (1048576 : Int) < (n : Int)
  · go_enter Try.func18, Try.ntmps18
    go_wp2
    go_ret
    exact ⟨rfl, rfl⟩
  · by_cases h2 : (1048576 : Int) < (s.size : Int)
    · go_enter Try.func18, Try.ntmps18
      go_wp2
      go_ret
      exact ⟨rfl, rfl⟩
    · have h3 : (1048576 : Int) < (n : Int) + (s.size : Int) := by omega
      go_enter Try.func18, Try.ntmps18
      go_wp2
      go_ret
      exact ⟨rfl, rfl⟩

theorem table_big (a : Option Addr) (n c : Nat) (s : ByteArray) (w : World) (h : 1048576 < n + s.size) (hm : s.size ≤ maxLen) :
    Calls Try.prog 6 #[.slice a n c, .string s] w fun e w' => e = .returned (.bool true) ∧ Below w.heap.size w w' := by
  go_enter Try.func6, Try.ntmps6
  go_wp2_with fail
  refine (zz18_no _ _ _ _ _ h hm).mono ?_
  rintro e w' ⟨rfl, rfl⟩
  go_wp2_with fail
  go_ret
  exact ⟨rfl, Below.refl _ _⟩

theorem beq_t {a b : Int} (h : a = b) : (a == b) = true := by simp [h]
theorem beq_f {a b : Int} (h : ¬ a = b) : (a == b) = false := by simp [h]

/-- A byte that fits, by the table's tests. -/
theorem fit_table {c l : Int} (h : low c = l) : (65 ≤ c ∧ c ≤ 90 ∧ 97 ≤ l ∧ l ≤ 122 ∧ (c == l) = false ∧ (c == l - 32) = true) ∨ (c < 65 ∧ l < 97 ∧ (c == l) = true) ∨ (90 < c ∧ l < 97 ∧ (c == l) = true) ∨
    (90 < c ∧ 97 ≤ l ∧ l ≤ 122 ∧ (c == l) = true ∧ (c == l - 32) = false) ∨ (90 < c ∧ 122 < l ∧ (c == l) = true) := by
  rcases fit_ways h with ⟨h1, h2, h3, h4⟩ | ⟨h1, h2, h3⟩ | ⟨h1, h2, h3⟩
  · exact .inl ⟨h1, h2, by omega, by omega, beq_f (by omega), beq_t (by omega)⟩
  · exact .inr (.inl ⟨h1, by omega, beq_t (by omega)⟩)
  · by_cases k1 : l < 97
    · exact .inr (.inr (.inl ⟨h1, k1, beq_t (by omega)⟩))
    · by_cases k2 : l ≤ 122
      · exact .inr (.inr (.inr (.inl ⟨h1, by omega, k2, beq_t (by omega), beq_f (by omega)⟩)))
      · exact .inr (.inr (.inr (.inr ⟨h1, by omega, beq_t (by omega)⟩)))
/-- A byte that does not fit: a capital. -/
theorem unfit_up {c l : Int} (h : ¬ low c = l) (h1 : 65 ≤ c) (h2 : c ≤ 90) : (l < 97 ∧ (c == l) = false) ∨ (l < 97 ∧ (c == l) = true) ∨ (97 ≤ l ∧ l ≤ 122 ∧ (c == l) = false ∧ (c == l - 32) = false) ∨ (122 < l ∧ (c == l) = false) := by
  rw [low_up h1 h2] at h
  by_cases k1 : l < 97
  · by_cases e : c = l
    · exact .inr (.inl ⟨k1, beq_t e⟩)
    · exact .inl ⟨k1, beq_f e⟩
  · by_cases k2 : l ≤ 122
    · exact .inr (.inr (.inl ⟨by omega, k2, beq_f (by omega), beq_f (by omega)⟩))
    · exact .inr (.inr (.inr ⟨by omega, beq_f (by omega)⟩))
/-- No capital. -/
theorem unfit_other {c l : Int} (h : ¬ low c = l) (h1 : c < 65 ∨ 90 < c) : (l < 97 ∧ (c == l) = false) ∨ (97 ≤ l ∧ l ≤ 122 ∧ (c == l) = false ∧ (c == l - 32) = false) ∨ (122 < l ∧ (c == l) = false) := by
  have e : ¬ c = l := by
    rcases h1 with h1 | h1
    · rwa [low_lt h1] at h
    · rwa [low_gt h1] at h
  by_cases k1 : l < 97
  · exact .inl ⟨k1, beq_f e⟩
  · by_cases k2 : l ≤ 122
    · exact .inr (.inl ⟨by omega, k2, beq_f e, beq_f (by omega)⟩)
    · exact .inr (.inr ⟨by omega, beq_f e⟩)

/-- The loop's relation. -/
def Told (f : Nat → Int) (n k : Nat) (s : ByteArray) (v : Bool) : Prop := if v = true then n = s.size ∧ ∀ j, j < k → low (f j) = lb s j else ¬ Fold f n s

theorem told_yes {f : Nat → Int} {n k : Nat} {s : ByteArray} (h : Told f n k s true) (hk : low (f k) = lb s k) : Told f n (k + 1) s true := by
  simp only [Told, if_true] at *
  refine ⟨h.1, fun j hj => ?_⟩
  by_cases e : j = k
  · subst e; exact hk
  · exact h.2 j (by omega)
theorem told_no {f : Nat → Int} {n k : Nat} {s : ByteArray} (hk : ¬ low (f k) = lb s k) (hlt : k < n) : Told f n (k + 1) s false := by
  show ¬ Fold f n s
  exact fun h => hk (h.2 k hlt)
theorem told_end {f : Nat → Int} {n : Nat} {s : ByteArray} {v : Bool} (h : Told f n n s v) : FAns f n s v := by
  cases v with
  | true => exact .inl ⟨h, rfl⟩
  | false => exact .inr ⟨h, rfl⟩
theorem told_false {f : Nat → Int} {n k : Nat} {s : ByteArray} (h : Told f n k s false) : FAns f n s false := .inr ⟨h, rfl⟩

set_option maxHeartbeats 1600000 in
theorem table_some (x : Addr) (n c : Nat) (f : Nat → Int) (s : ByteArray) (w : World) (hn : n + s.size ≤ 1048576) (hb : Bytes w (some x) n f) :
    Calls Try.prog 6 #[.slice (some x) n c, .string s] w fun e w' => e = .returned (.bool true) ∧ Below w.heap.size w w' := by
  have HB : Hid (Bytes w (some x) n f) := hb
  clear hb
  have hn1 : ¬ (1048576 : Int) < (n : Int) := by omega
  have hn2 : ¬ (1048576 : Int) - (n : Int) < (s.size : Int) := by omega
  go_enter Try.func6, Try.ntmps6
  go_wp2_with fail
  refine (zz18_yes _ _ _ _ _ hn).mono ?_
  rintro e w' ⟨rfl, rfl⟩
  go_wp2_with fail
  refine (clone_some x n c f w (by omega) HB.out).mono ?_
  rintro e w1 ⟨rfl, r1, b1, s1⟩
  have HR : Hid (Row w1 w.heap.size n f) := r1
  have HB1 : Hid (Below w.heap.size w w1) := b1
  clear r1 b1 s1
  go_wp2_with fail
  go_loop [5, 6] (fun b i => ∃ (k : Nat) (v : Bool), k ≤ n ∧ i = .int .i64 k ∧ b = .bool v ∧ Told f n k s v) (fun _ i => n - (intOf i).toNat)
  case atStart =>
    by_cases e : n = s.size
    · exact ⟨0, true, Nat.zero_le _, rfl, by simp; omega, by simp [Told, e]⟩
    · exact ⟨0, false, Nat.zero_le _, rfl, by simp; omega, fun h => e h.1⟩
  case round =>
    obtain ⟨k, v, hk, rfl, rfl, ht⟩ := hrel
    cases v with
    | false =>
      have HT : Hid (FAns f n s false) := told_false ht
      clear ht
      go_wp2_with fail
      refine (zef_ans _ _ _ f s _ false (by omega) HR.out.bytes HT.out).mono ?_
      rintro e w' ⟨rfl, rfl⟩
      go_wp2_with fail
      go_ret
      exact ⟨rfl, HB1.out⟩
    | true =>
      by_cases hlt : k < n
      · have hcell := HR.out.cell k hlt
        have hsz : n = s.size := by simp only [Told, if_true] at ht; exact ht.1
        have hks : k < s.size := by omega
        have hl := lb_eq hks
        obtain ⟨g1, g2⟩ := lb_bd s k
        clear hsz
        by_cases hf : low (f k) = lb s k
        · have HT : Hid (Told f n (k + 1) s true) := told_yes ht hf
          have hw := fit_table hf
          clear ht hf
          rcases hw with ⟨c1, c2, c3, c4, c5, c6⟩ | ⟨c1, c2, c3⟩ | ⟨c1, c2, c3⟩ | ⟨c1, c2, c3, c4, c5⟩ | ⟨c1, c2, c3⟩
          all_goals
            go_wp2
            go_round
            case rel => exact ⟨k + 1, true, by omega, by go_num, rfl, HT.out⟩
            case measure => simp [intOf]; omega
        · have HT : Hid (Told f n (k + 1) s false) := told_no hf hlt
          clear ht
          by_cases u1 : 65 ≤ f k
          · by_cases u2 : f k ≤ 90
            · have hw := unfit_up hf u1 u2
              clear hf
              rcases hw with ⟨c1, c2⟩ | ⟨c1, c2⟩ | ⟨c1, c2, c3, c4⟩ | ⟨c1, c2⟩
              all_goals
                go_wp2
                go_round
                case rel => exact ⟨k + 1, false, by omega, by go_num, rfl, HT.out⟩
                case measure => simp [intOf]; omega
            · have hw := unfit_other hf (.inr (by omega))
              clear hf
              rcases hw with ⟨c1, c2⟩ | ⟨c1, c2, c3, c4⟩ | ⟨c1, c2⟩
              all_goals
                go_wp2
                go_round
                case rel => exact ⟨k + 1, false, by omega, by go_num, rfl, HT.out⟩
                case measure => simp [intOf]; omega
          · have hw := unfit_other hf (.inl (by omega))
            clear hf
            rcases hw with ⟨c1, c2⟩ | ⟨c1, c2, c3, c4⟩ | ⟨c1, c2⟩
            all_goals
              go_wp2
              go_round
              case rel => exact ⟨k + 1, false, by omega, by go_num, rfl, HT.out⟩
              case measure => simp [intOf]; omega
      · have e : k = n := by omega
        subst e
        have HT : Hid (FAns f k s true) := told_end ht
        clear ht
        go_wp2_with fail
        refine (zef_ans _ _ _ f s _ true (by omega) HR.out.bytes HT.out).mono ?_
        rintro e w' ⟨rfl, rfl⟩
        go_wp2_with fail
        go_ret
        exact ⟨rfl, HB1.out⟩

set_option maxHeartbeats 400000 in
theorem table_nil (s : ByteArray) (w : World) (hn : s.size ≤ 1048576) :
    Calls Try.prog 6 #[.slice none 0 0, .string s] w fun e w' => e = .returned (.bool true) ∧ Below w.heap.size w w' := by
  have hn2 : ¬ (1048576 : Int) < (s.size : Int) := by omega
  go_enter Try.func6, Try.ntmps6
  go_wp2_with fail
  refine (zz18_yes _ _ _ _ _ (by omega)).mono ?_
  rintro e w' ⟨rfl, rfl⟩
  go_wp2_with fail
  refine (clone_nil w).mono ?_
  rintro e w1 ⟨rfl, rfl⟩
  by_cases hz : s.size = 0
  · have h0 : ((0 : Int) == (s.size : Int)) = true := by simp; omega
    have HF : Hid (FAns (fun _ => 0) 0 s true) := .inl ⟨⟨hz.symm, fun i hi => absurd hi (Nat.not_lt_zero i)⟩, rfl⟩
    clear hz
    go_wp2_with fail
    refine wp_loop_rounds 1 ?_
    rw [rounds_succ]
    go_wp2_with fail
    refine (zef_ans _ _ _ (fun _ => 0) s _ true (by omega) (.inl rfl) HF.out).mono ?_
    rintro e w' ⟨rfl, rfl⟩
    go_wp2_with fail
    go_ret
    exact ⟨rfl, Below.refl _ _⟩
  · have h0 : ((0 : Int) == (s.size : Int)) = false := by simp; omega
    have HF : Hid (FAns (fun _ => 0) 0 s false) := .inr ⟨fun h => hz h.1.symm, rfl⟩
    go_wp2_with fail
    refine wp_loop_rounds 1 ?_
    rw [rounds_succ]
    go_wp2_with fail
    refine (zef_ans _ _ _ (fun _ => 0) s _ false (by omega) (.inl rfl) HF.out).mono ?_
    rintro e w' ⟨rfl, rfl⟩
    go_wp2_with fail
    go_ret
    exact ⟨rfl, Below.refl _ _⟩
end Go.Proofs.Qxb6601933a
