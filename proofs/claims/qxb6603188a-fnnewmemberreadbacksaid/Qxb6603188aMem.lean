/-
  THE WALKS OVER A SLICE OF MEMBERS (structs of a string and two ints): sizes.
-/
import Derived.Test.Qxb6603188aSpec
import Derived.WalkLawsBesides
namespace Go.Proofs.Qxb6603188a
open Go.RowKit

/-- The cells of a slice of n members. -/
def MCells (w : World) (a : Option Addr) (n : Nat) : Prop :=
  n = 0 ∨ ∃ b off, a = some ⟨b, off, none⟩ ∧ ∀ k, k < n → ∃ s i j, w.cell? ⟨b, off + k * 3, none⟩ = some (.string s) ∧ w.cell? ⟨b, off + k * 3 + 1, none⟩ = some (.int .i64 i) ∧ w.cell? ⟨b, off + k * 3 + 2, none⟩ = some (.int .i64 j)

/-- What the byte guard says. -/
def SizePost (n : Nat) (nl ind un ky vl : ByteArray) (w : World) (e : Ending) (w' : World) : Prop :=
  ∃ z, e = .returned (.bool z) ∧ (z = true → n ≤ 1048576 ∧ nl.size + ind.size + un.size + ky.size + vl.size ≤ 1048576) ∧ w = w'

theorem size_no (n : Nat) (nl ind un ky vl : ByteArray) (w : World) : SizePost n nl ind un ky vl w (.returned (.bool false)) w :=
  ⟨false, rfl, (fun h => by cases h), rfl⟩
theorem size_yes {n : Nat} {nl ind un ky vl : ByteArray} {w : World} (h1 : n ≤ 1048576) (h2 : nl.size + ind.size + un.size + ky.size + vl.size ≤ 1048576) : SizePost n nl ind un ky vl w (.returned (.bool true)) w :=
  ⟨true, rfl, fun _ => ⟨h1, h2⟩, rfl⟩

set_option maxHeartbeats 1600000 in
theorem zz13_any (a : Option Addr) (n c : Nat) (le : Int) (nl ind un ky vl : ByteArray) (w : World) (hm : MCells w a n)
    (h1 : nl.size ≤ maxLen) (h2 : ind.size ≤ maxLen) (h3 : un.size ≤ maxLen) (h4 : ky.size ≤ maxLen) (h5 : vl.size ≤ maxLen) :
    Calls Try.prog 13 #[.slice a n c, .int .i64 le, .string nl, .string ind, .string un, .string ky, .string vl] w (SizePost n nl ind un ky vl w) := by
  unfold maxLen at h1 h2 h3 h4 h5
  have HM : Hid (MCells w a n) := hm
  clear hm
  by_cases hn : (1048576 : Int) < (n : Int)
  · go_enter Try.func13, Try.ntmps13
    go_wp2
    go_ret
    exact size_no _ _ _ _ _ _ _
  · go_enter Try.func13, Try.ntmps13
    go_wp2
    go_loop [15, 16] (fun t i => ∃ (k : Nat) (T : Int), k ≤ n ∧ i = .int .i64 k ∧ t = .int .i64 T ∧ (n : Int) ≤ T ∧ T ≤ 1048576) (fun _ i => n - (intOf i).toNat)
    case atStart => exact ⟨0, n, Nat.zero_le _, rfl, rfl, Int.le_refl _, by omega⟩
    case round =>
      obtain ⟨k, T, hk, rfl, rfl, t1, t2⟩ := hrel
      by_cases hlt : k < n
      · rcases HM.out with h0 | ⟨b, off, rfl, hcs⟩
        · omega
        obtain ⟨s, i, j, c1, c2, c3⟩ := hcs k hlt
        clear hcs c2 c3 HM
        by_cases s1 : (1048576 : Int) < (s.size : Int)
        · go_wp2
          go_ret
          exact size_no _ _ _ _ _ _ _
        · by_cases s2 : (1048576 : Int) < T + (s.size : Int)
          · go_wp2
            go_ret
            exact size_no _ _ _ _ _ _ _
          · go_wp2
            go_round
            case rel => exact ⟨k + 1, T + s.size, by omega, by go_num, rfl, by omega, by omega⟩
            case measure => simp [intOf]; omega
      · clear HM
        by_cases a1 : (1048576 : Int) < T + nl.size
        · by_cases a0 : (1048576 : Int) < (nl.size : Int)
          all_goals
            go_wp2
            go_ret
            exact size_no _ _ _ _ _ _ _
        · by_cases a2 : (1048576 : Int) < T + nl.size + ind.size
          · by_cases a0 : (1048576 : Int) < (ind.size : Int)
            all_goals
              go_wp2
              go_ret
              exact size_no _ _ _ _ _ _ _
          · by_cases a3 : (1048576 : Int) < T + nl.size + ind.size + un.size
            · by_cases a0 : (1048576 : Int) < (un.size : Int)
              all_goals
                go_wp2
                go_ret
                exact size_no _ _ _ _ _ _ _
            · by_cases a4 : (1048576 : Int) < T + nl.size + ind.size + un.size + ky.size
              · by_cases a0 : (1048576 : Int) < (ky.size : Int)
                all_goals
                  go_wp2
                  go_ret
                  exact size_no _ _ _ _ _ _ _
              · by_cases a5 : (1048576 : Int) < T + nl.size + ind.size + un.size + ky.size + vl.size
                · by_cases a0 : (1048576 : Int) < (vl.size : Int)
                  all_goals
                    go_wp2
                    go_ret
                    exact size_no _ _ _ _ _ _ _
                · go_wp2
                  go_ret
                  exact size_yes (by omega) (by omega)

/-- What the second guard says: a bool. -/
def BoolPost (w : World) (e : Ending) (w' : World) : Prop := ∃ z, e = .returned (.bool z) ∧ w = w'
theorem bool_post (z : Bool) (w : World) : BoolPost w (.returned (.bool z)) w := ⟨z, rfl, rfl⟩

set_option maxHeartbeats 1600000 in
theorem size14_any (a : Option Addr) (n c : Nat) (nl ind un ky vl : ByteArray) (w : World) (hm : MCells w a n) (hn : n ≤ 32768) (hs : nl.size + ind.size + un.size + ky.size + vl.size ≤ 1048576) :
    Calls Try.prog 14 #[.slice a n c, .string nl, .string ind, .string un, .string ky, .string vl] w (BoolPost w) := by
  have HM : Hid (MCells w a n) := hm
  clear hm
  have g0 : ¬ (32768 : Int) < (n : Int) := by omega
  have g1 : ¬ (1048576 : Int) < (nl.size : Int) := by omega
  have g2 : ¬ (1048576 : Int) < (ind.size : Int) := by omega
  have g3 : ¬ (1048576 : Int) < (un.size : Int) := by omega
  have g4 : ¬ (1048576 : Int) < (ky.size : Int) := by omega
  have g5 : ¬ (1048576 : Int) < (vl.size : Int) := by omega
  by_cases g6 : (1048576 : Int) < 32 * (n : Int) + nl.size + ind.size + un.size + ky.size + vl.size
  · go_enter Try.func14, Try.ntmps14
    go_wp2
    go_ret
    exact bool_post _ _
  · go_enter Try.func14, Try.ntmps14
    go_wp2
    go_loop [13, 14] (fun t i => ∃ (k : Nat) (T : Int), k ≤ n ∧ i = .int .i64 k ∧ t = .int .i64 T ∧ 0 ≤ T ∧ T ≤ 1048576) (fun _ i => n - (intOf i).toNat)
    case atStart => exact ⟨0, 32 * (n : Int) + nl.size + ind.size + un.size + ky.size + vl.size, Nat.zero_le _, rfl, rfl, by omega, by omega⟩
    case round =>
      obtain ⟨k, T, hk, rfl, rfl, t1, t2⟩ := hrel
      by_cases hlt : k < n
      · rcases HM.out with h0 | ⟨b, off, rfl, hcs⟩
        · omega
        obtain ⟨s, i, j, c1, c2, c3⟩ := hcs k hlt
        clear hcs c2 c3 HM
        by_cases s1 : (1048576 : Int) < (s.size : Int)
        · go_wp2
          go_ret
          exact bool_post _ _
        · by_cases s2 : (1048576 : Int) < T + (s.size : Int)
          · go_wp2
            go_ret
            exact bool_post _ _
          · go_wp2
            go_round
            case rel => exact ⟨k + 1, T + s.size, by omega, by go_num, rfl, by omega, by omega⟩
            case measure => simp [intOf]; omega
      · clear HM
        go_wp2
        go_ret
        exact bool_post _ _
end Go.Proofs.Qxb6603188a
