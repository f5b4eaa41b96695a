/-
  THE WALK OF 'httphead.readLength' AND ITS SHIM.
-/
import Derived.Test.Qxb6601933aRows
import Derived.Test.Qxb6601933aPlain
import Derived.WalkKit
import Derived.ProofKit
import Derived.Handy
namespace Go.Proofs.Qxb6601933a
open Go.RowKit Plain

/-- The cells of a slice of bytes. -/
def Bytes (w : World) (a : Option Addr) (n : Nat) (f : Nat → Int) : Prop :=
  n = 0 ∨ ∃ b off, a = some ⟨b, off, none⟩ ∧ ∀ i, i < n → w.cell? ⟨b, off + i, none⟩ = some (.int .u8 (f i))

theorem read_short (a : Option Addr) (n c : Nat) (w : World) (h : n = 0 ∨ 12 < n) :
    Calls Try.prog 33 #[.slice a n c] w fun e w' => e = .returned (.tuple #[.int .i64 (-1), .bool false]) ∧ w = w' := by
  rcases h with rfl | h
  · go_enter Try.func33, Try.ntmps33
    go_wp2
    go_ret2
    exact ⟨rfl, rfl⟩
  · have h0 : ((n : Int) == 0) = false := by simp; omega
    have h1 : (12 : Int) < (n : Int) := by omega
    go_enter Try.func33, Try.ntmps33
    go_wp2
    go_ret2
    exact ⟨rfl, rfl⟩

theorem read_good (b off n c : Nat) (f : Nat → Int) (w : World) (h1 : 1 ≤ n) (h2 : n ≤ 12) (hc : ∀ i, i < n → w.cell? ⟨b, off + i, none⟩ = some (.int .u8 (f i))) (hd : Digs f n) :
    Calls Try.prog 33 #[.slice (some ⟨b, off, none⟩) n c] w fun e w' => e = .returned (.tuple #[.int .i64 (val f n), .bool true]) ∧ w = w' := by
  have h0 : ((n : Int) == 0) = false := by simp; omega
  have h1' : ¬ (12 : Int) < (n : Int) := by omega
  go_enter Try.func33, Try.ntmps33
  go_wp2
  go_loop [4, 17] (fun t i => ∃ k : Nat, k ≤ n ∧ i = .int .i64 k ∧ t = .int .i64 (val f k)) (fun _ i => n - (intOf i).toNat)
  case atStart => exact ⟨0, Nat.zero_le _, rfl, rfl⟩
  case round =>
    obtain ⟨k, hk, rfl, rfl⟩ := hrel
    by_cases hlt : k < n
    · have hcell := hc k hlt
      have hdk := hd k hlt
      obtain ⟨d1, d2⟩ := hdk
      have hv := val_bd11 (digs_le hd hk) (by omega)
      obtain ⟨v1, v2⟩ := hv
      clear hc hd
      go_wp2
      go_round
      case rel => exact ⟨k + 1, by omega, by go_num, by simp only [val]⟩
      case measure => simp [intOf]; omega
    · have e : k = n := by omega
      subst e
      clear hc hd
      go_wp2
      go_ret2
      exact ⟨rfl, rfl⟩

theorem read_bad (b off n c : Nat) (f : Nat → Int) (w : World) (h1 : 1 ≤ n) (h2 : n ≤ 12) (hc : ∀ i, i < n → w.cell? ⟨b, off + i, none⟩ = some (.int .u8 (f i))) (hd : ¬ Digs f n) :
    Calls Try.prog 33 #[.slice (some ⟨b, off, none⟩) n c] w fun e w' => e = .returned (.tuple #[.int .i64 (-1), .bool false]) ∧ w = w' := by
  have h0 : ((n : Int) == 0) = false := by simp; omega
  have h1' : ¬ (12 : Int) < (n : Int) := by omega
  go_enter Try.func33, Try.ntmps33
  go_wp2
  go_loop [4, 17] (fun t i => ∃ k : Nat, k ≤ n ∧ Digs f k ∧ i = .int .i64 k ∧ t = .int .i64 (val f k)) (fun _ i => n - (intOf i).toNat)
  case atStart => exact ⟨0, Nat.zero_le _, fun i hi => absurd hi (Nat.not_lt_zero i), rfl, rfl⟩
  case round =>
    obtain ⟨k, hk, hdk, rfl, rfl⟩ := hrel
    by_cases hlt : k < n
    · have hcell := hc k hlt
      by_cases l1 : f k < 48
      · clear hc hd hdk
        go_wp2
        go_ret2
        exact ⟨rfl, rfl⟩
      · by_cases l2 : 57 < f k
        · clear hc hd hdk
          go_wp2
          go_ret2
          exact ⟨rfl, rfl⟩
        · have HD : Hid (Digs f (k + 1)) := digs_succ hdk (by omega) (by omega)
          have hv := val_bd11 hdk (by omega)
          obtain ⟨v1, v2⟩ := hv
          clear hc hd hdk
          go_wp2
          go_round
          case rel => exact ⟨k + 1, by omega, HD.out, by go_num, by simp only [val]⟩
          case measure => simp [intOf]; omega
    · have e : k = n := by omega
      subst e
      exact absurd hdk hd

/-- The shim. -/
theorem zread_good (a : Option Addr) (n c : Nat) (f : Nat → Int) (w : World) (hb : Bytes w a n f) (hg : DecOk f n) :
    Calls Try.prog 14 #[.slice a n c] w fun e w' => e = .returned (.tuple #[.int .i64 (val f n), .bool true]) ∧ w = w' := by
  obtain ⟨h1, h2, h3⟩ := hg
  rcases hb with rfl | ⟨b, off, rfl, hc⟩
  · omega
  have H : Hid (Calls Try.prog 33 #[.slice (some ⟨b, off, none⟩) n c] w fun e w' => e = .returned (.tuple #[.int .i64 (val f n), .bool true]) ∧ w = w') := read_good b off n c f w h1 h2 hc h3
  clear hc h3
  go_enter Try.func14, Try.ntmps14
  go_wp2_with (go_at_call 33; refine H.out.mono ?_; rintro e w' ⟨rfl, rfl⟩)
  go_ret2
  exact ⟨rfl, rfl⟩

theorem zread_bad (a : Option Addr) (n c : Nat) (f : Nat → Int) (w : World) (hb : Bytes w a n f) (hg : ¬ DecOk f n) :
    Calls Try.prog 14 #[.slice a n c] w fun e w' => e = .returned (.tuple #[.int .i64 (-1), .bool false]) ∧ w = w' := by
  have H : Hid (Calls Try.prog 33 #[.slice a n c] w fun e w' => e = .returned (.tuple #[.int .i64 (-1), .bool false]) ∧ w = w') := by
    by_cases h : n = 0 ∨ 12 < n
    · exact read_short a n c w h
    · rcases hb with rfl | ⟨b, off, rfl, hc⟩
      · omega
      · exact read_bad b off n c f w (by omega) (by omega) hc (fun hd => hg ⟨by omega, by omega, hd⟩)
  clear hb hg
  go_enter Try.func14, Try.ntmps14
  go_wp2_with (go_at_call 33; refine H.out.mono ?_; rintro e w' ⟨rfl, rfl⟩)
  go_ret2
  exact ⟨rfl, rfl⟩
end Go.Proofs.Qxb6601933a
