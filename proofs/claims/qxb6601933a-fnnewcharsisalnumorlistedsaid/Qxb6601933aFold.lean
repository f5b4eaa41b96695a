/-
  THE WALK OF 'httphead.equalFold' AND ITS SHIM.
-/
import Derived.Test.Qxb6601933aRow
namespace Go.Proofs.Qxb6601933a
open Go.RowKit Plain

/-- The byte at place i of a string, as a number. -/
def lb (s : ByteArray) (i : Nat) : Int := if h : i < s.size then ((s[i]'h).toNat : Int) else 0
theorem lb_eq {s : ByteArray} {i : Nat} (h : i < s.size) : ((s[i]'h).toNat : Int) = lb s i := by simp [lb, h]
theorem lb_bd (s : ByteArray) (i : Nat) : 0 ≤ lb s i ∧ lb s i ≤ 255 := by
  unfold lb
  by_cases h : i < s.size
  · simp [h]
    have := (s[i]'h).toNat_lt
    omega
  · simp [h]

/-- ASCII's lower case. -/
def low (c : Int) : Int := if 65 ≤ c ∧ c ≤ 90 then c + 32 else c

/-- What 'equalFold' tests. -/
def Fold (f : Nat → Int) (n : Nat) (s : ByteArray) : Prop := n = s.size ∧ ∀ i, i < n → low (f i) = lb s i

theorem low_up {c : Int} (h1 : 65 ≤ c) (h2 : c ≤ 90) : low c = c + 32 := if_pos ⟨h1, h2⟩
theorem low_lt {c : Int} (h1 : c < 65) : low c = c := if_neg (by omega)
theorem low_gt {c : Int} (h1 : 90 < c) : low c = c := if_neg (by omega)

theorem ef_len (a : Option Addr) (n c : Nat) (s : ByteArray) (w : World) (h : n ≠ s.size) :
    Calls Try.prog 34 #[.slice a n c, .string s] w fun e w' => e = .returned (.bool false) ∧ w = w' := by
  have h' : ((n : Int) != (s.size : Int)) = true := by simp; omega
  go_enter Try.func34, Try.ntmps34
  go_wp2
  go_ret
  exact ⟨rfl, rfl⟩

/-- Three ways of a byte that fits; six of one that does not. -/
theorem fit_ways {c l : Int} (h : low c = l) : (65 ≤ c ∧ c ≤ 90 ∧ c + 32 ≤ l ∧ l ≤ c + 32) ∨ (c < 65 ∧ c ≤ l ∧ l ≤ c) ∨ (90 < c ∧ c ≤ l ∧ l ≤ c) := by
  unfold low at h
  split at h <;> omega
theorem unfit_ways {c l : Int} (h : ¬ low c = l) : (65 ≤ c ∧ c ≤ 90 ∧ c + 32 < l) ∨ (65 ≤ c ∧ c ≤ 90 ∧ l < c + 32) ∨ (c < 65 ∧ c < l) ∨ (c < 65 ∧ l < c) ∨ (90 < c ∧ c < l) ∨ (90 < c ∧ l < c) := by
  unfold low at h
  split at h <;> omega

set_option maxHeartbeats 800000 in
theorem ef_yes (b off n c : Nat) (f : Nat → Int) (s : ByteArray) (w : World) (hn : n ≤ 1048576) (hs : s.size = n) (hc : ∀ i, i < n → w.cell? ⟨b, off + i, none⟩ = some (.int .u8 (f i)))
    (hf : ∀ i, i < n → low (f i) = lb s i) :
    Calls Try.prog 34 #[.slice (some ⟨b, off, none⟩) n c, .string s] w fun e w' => e = .returned (.bool true) ∧ w = w' := by
  have h' : ((n : Int) != (s.size : Int)) = false := by simp; omega
  have HS : Hid (s.size = n) := hs
  have hs1 : s.size ≤ n := by omega
  have hs2 : n ≤ s.size := by omega
  clear hs
  go_enter Try.func34, Try.ntmps34
  go_wp2
  go_loop [14] (fun i => ∃ k : Nat, k ≤ n ∧ i = .int .i64 k) (fun i => n - (intOf i).toNat)
  case atStart => exact ⟨0, Nat.zero_le _, rfl⟩
  case round =>
    obtain ⟨k, hk, rfl⟩ := hrel
    by_cases hlt : k < n
    · have hcell := hc k hlt
      have hks : k < s.size := by omega
      have hl := lb_eq hks
      have hfk := fit_ways (hf k hlt)
      clear hc hf
      rcases hfk with ⟨c1, c2, c3, c4⟩ | ⟨c1, c2, c3⟩ | ⟨c1, c2, c3⟩
      all_goals
        go_wp2
        go_round
        case rel => exact ⟨k + 1, by omega, by go_num⟩
        case measure => simp [intOf]; omega
    · clear hc hf
      go_wp2
      go_ret
      exact ⟨rfl, rfl⟩

set_option maxHeartbeats 800000 in
theorem ef_no (b off n c : Nat) (f : Nat → Int) (s : ByteArray) (w : World) (hn : n ≤ 1048576) (hs : s.size = n) (hc : ∀ i, i < n → w.cell? ⟨b, off + i, none⟩ = some (.int .u8 (f i)))
    (hf : ¬ ∀ i, i < n → low (f i) = lb s i) :
    Calls Try.prog 34 #[.slice (some ⟨b, off, none⟩) n c, .string s] w fun e w' => e = .returned (.bool false) ∧ w = w' := by
  have h' : ((n : Int) != (s.size : Int)) = false := by simp; omega
  have HS : Hid (s.size = n) := hs
  have hs1 : s.size ≤ n := by omega
  have hs2 : n ≤ s.size := by omega
  clear hs
  have HF : Hid (¬ ∀ i, i < n → low (f i) = lb s i) := hf
  clear hf
  go_enter Try.func34, Try.ntmps34
  go_wp2
  go_loop [14] (fun i => ∃ k : Nat, k ≤ n ∧ i = .int .i64 k ∧ ∀ j, j < k → low (f j) = lb s j) (fun i => n - (intOf i).toNat)
  case atStart => exact ⟨0, Nat.zero_le _, rfl, fun j hj => absurd hj (Nat.not_lt_zero j)⟩
  case round =>
    obtain ⟨k, hk, rfl, hj⟩ := hrel
    by_cases hlt : k < n
    · have hcell := hc k hlt
      have hks : k < s.size := by omega
      have hl := lb_eq hks
      by_cases hfk : low (f k) = lb s k
      · have HJ : Hid (∀ j, j < k + 1 → low (f j) = lb s j) := fun j hj' => by
          by_cases e : j = k
          · subst e; exact hfk
          · exact hj j (by omega)
        have hfk' := fit_ways hfk
        clear hc hj hfk
        rcases hfk' with ⟨c1, c2, c3, c4⟩ | ⟨c1, c2, c3⟩ | ⟨c1, c2, c3⟩
        all_goals
          go_wp2
          go_round
          case rel => exact ⟨k + 1, by omega, by go_num, HJ.out⟩
          case measure => simp [intOf]; omega
      · have hfk' := unfit_ways hfk
        clear hc hj hfk
        rcases hfk' with ⟨c1, c2, c3⟩ | ⟨c1, c2, c3⟩ | ⟨c1, c2⟩ | ⟨c1, c2⟩ | ⟨c1, c2⟩ | ⟨c1, c2⟩
        all_goals
          go_wp2
          go_ret
          exact ⟨rfl, rfl⟩
    · have e : k = n := by omega
      subst e
      exact absurd hj HF.out

/-- The shim's contract, both answers. -/
theorem zef_yes (a : Option Addr) (n c : Nat) (f : Nat → Int) (s : ByteArray) (w : World) (hn : n ≤ 1048576) (hb : Bytes w a n f) (h : Fold f n s) :
    Calls Try.prog 21 #[.slice a n c, .string s] w fun e w' => e = .returned (.bool true) ∧ w = w' := by
  have H : Hid (Calls Try.prog 34 #[.slice a n c, .string s] w fun e w' => e = .returned (.bool true) ∧ w = w') := by
    obtain ⟨hs, hf⟩ := h
    rcases hb with h0 | ⟨b, off, rfl, hc⟩
    · subst h0
      have h' : ((0 : Int) != (s.size : Int)) = false := by simp; omega
      show Calls _ _ _ _ _
      go_enter Try.func34, Try.ntmps34
      go_wp2
      go_rounds 1
      go_ret
      exact ⟨rfl, rfl⟩
    · exact ef_yes b off n c f s w hn hs.symm hc hf
  clear hb h
  go_enter Try.func21, Try.ntmps21
  go_wp2_with (go_at_call 34; refine H.out.mono ?_; rintro e w' ⟨rfl, rfl⟩)
  go_ret
  exact ⟨rfl, rfl⟩

theorem zef_no (a : Option Addr) (n c : Nat) (f : Nat → Int) (s : ByteArray) (w : World) (hn : n ≤ 1048576) (hb : Bytes w a n f) (h : ¬ Fold f n s) :
    Calls Try.prog 21 #[.slice a n c, .string s] w fun e w' => e = .returned (.bool false) ∧ w = w' := by
  have H : Hid (Calls Try.prog 34 #[.slice a n c, .string s] w fun e w' => e = .returned (.bool false) ∧ w = w') := by
    by_cases hl : n = s.size
    · have hf : ¬ ∀ i, i < n → low (f i) = lb s i := fun hf => h ⟨hl, hf⟩
      rcases hb with h0 | ⟨b, off, rfl, hc⟩
      · exact absurd (fun i hi => by omega) hf
      · exact ef_no b off n c f s w hn hl.symm hc hf
    · exact ef_len a n c s w hl
  clear hb h
  go_enter Try.func21, Try.ntmps21
  go_wp2_with (go_at_call 34; refine H.out.mono ?_; rintro e w' ⟨rfl, rfl⟩)
  go_ret
  exact ⟨rfl, rfl⟩

/-- What 'equalFold' answers, as a relation. -/
def FAns (f : Nat → Int) (n : Nat) (s : ByteArray) (B : Bool) : Prop := (Fold f n s ∧ B = true) ∨ (¬ Fold f n s ∧ B = false)

theorem fans_ex (f : Nat → Int) (n : Nat) (s : ByteArray) : ∃ B, FAns f n s B := by
  by_cases h : Fold f n s
  · exact ⟨_, .inl ⟨h, rfl⟩⟩
  · exact ⟨_, .inr ⟨h, rfl⟩⟩

theorem zef_ans (a : Option Addr) (n c : Nat) (f : Nat → Int) (s : ByteArray) (w : World) (B : Bool) (hn : n ≤ 1048576) (hb : Bytes w a n f) (h : FAns f n s B) :
    Calls Try.prog 21 #[.slice a n c, .string s] w fun e w' => e = .returned (.bool B) ∧ w = w' := by
  rcases h with ⟨h, rfl⟩ | ⟨h, rfl⟩
  · exact zef_yes a n c f s w hn hb h
  · exact zef_no a n c f s w hn hb h
end Go.Proofs.Qxb6601933a
