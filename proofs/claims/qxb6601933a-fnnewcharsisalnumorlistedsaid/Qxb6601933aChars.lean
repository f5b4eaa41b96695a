/-
  THE WALKS OF 'NewChars', 'isASCIIText', 'isAlnumASCII', 'occursIn' AND OF 'FnNewCharsIsAlnumOrListed'.
-/
import Derived.Test.Qxb6601933aFold
namespace Go.Proofs.Qxb6601933a
open Go.RowKit Plain

def alnB (c : Int) : Bool := decide (48 ≤ c ∧ c ≤ 57) || decide (65 ≤ c ∧ c ≤ 90) || decide (97 ≤ c ∧ c ≤ 122)
/-- Does c stand among the first k bytes of s? -/
def occB (s : ByteArray) (c : Int) : Nat → Bool
  | 0 => false
  | k + 1 => occB s c k || decide (lb s k = c)

theorem occ_le {s : ByteArray} {c : Int} {k : Nat} (h : occB s c k = true) : ∀ {m : Nat}, k ≤ m → occB s c m = true := by
  intro m
  induction m with
  | zero =>
    intro hk
    have e : k = 0 := by omega
    subst e
    exact h
  | succ m ih =>
    intro hk
    by_cases e : k = m + 1
    · subst e; exact h
    · simp [occB, ih (by omega)]

theorem alnum_any (c : Int) (w : World) : Calls Try.prog 29 #[.int .u8 c] w fun e w' => e = .returned (.bool (alnB c)) ∧ w = w' := by
  have hb : ∃ b, alnB c = b := ⟨_, rfl⟩
  obtain ⟨b, hb⟩ := hb
  rw [hb]
  by_cases h1 : c < 48
  · obtain rfl : b = false := by rw [← hb]; simp [alnB]; omega
    clear hb
    go_enter Try.func29, Try.ntmps29
    go_wp2
    go_ret
    exact ⟨rfl, rfl⟩
  · by_cases h2 : c ≤ 57
    · obtain rfl : b = true := by rw [← hb]; simp [alnB]; omega
      clear hb
      go_enter Try.func29, Try.ntmps29
      go_wp2
      go_ret
      exact ⟨rfl, rfl⟩
    · by_cases h3 : c < 65
      · obtain rfl : b = false := by rw [← hb]; simp [alnB]; omega
        clear hb
        go_enter Try.func29, Try.ntmps29
        go_wp2
        go_ret
        exact ⟨rfl, rfl⟩
      · by_cases h4 : c ≤ 90
        · obtain rfl : b = true := by rw [← hb]; simp [alnB]; omega
          clear hb
          go_enter Try.func29, Try.ntmps29
          go_wp2
          go_ret
          exact ⟨rfl, rfl⟩
        · by_cases h5 : c < 97
          · obtain rfl : b = false := by rw [← hb]; simp [alnB]; omega
            clear hb
            go_enter Try.func29, Try.ntmps29
            go_wp2
            go_ret
            exact ⟨rfl, rfl⟩
          · by_cases h6 : c ≤ 122
            · obtain rfl : b = true := by rw [← hb]; simp [alnB]; omega
              clear hb
              go_enter Try.func29, Try.ntmps29
              go_wp2
              go_ret
              exact ⟨rfl, rfl⟩
            · obtain rfl : b = false := by rw [← hb]; simp [alnB]; omega
              clear hb
              go_enter Try.func29, Try.ntmps29
              go_wp2
              go_ret
              exact ⟨rfl, rfl⟩

theorem occurs_any (s : ByteArray) (c : Int) (b : Bool) (w : World) (hs : s.size ≤ 1048576) (hb : occB s c s.size = b) :
    Calls Try.prog 30 #[.string s, .int .u8 c] w fun e w' => e = .returned (.bool b) ∧ w = w' := by
  have HB : Hid (occB s c s.size = b) := hb
  clear hb
  go_enter Try.func30, Try.ntmps30
  go_wp2
  go_loop [5] (fun i => ∃ k : Nat, k ≤ s.size ∧ i = .int .i64 k ∧ occB s c k = false) (fun i => s.size - (intOf i).toNat)
  case atStart => exact ⟨0, Nat.zero_le _, rfl, rfl⟩
  case round =>
    obtain ⟨k, hk, rfl, ho⟩ := hrel
    by_cases hlt : k < s.size
    · have hl := lb_eq hlt
      by_cases he : lb s k = c
      · obtain rfl : b = true := by rw [← HB.out]; exact occ_le (k := k + 1) (by simp [occB, he]) (by omega)
        have e1 : (lb s k == c) = true := by simp [he]
        clear he ho HB
        go_wp2
        go_ret
        exact ⟨rfl, rfl⟩
      · have e1 : (lb s k == c) = false := by simp [he]
        have HO : Hid (occB s c (k + 1) = false) := by show occB s c (k + 1) = false; simp [occB, he, ho]
        clear he ho
        go_wp2
        go_round
        case rel => exact ⟨k + 1, by omega, by go_num, HO.out⟩
        case measure => simp [intOf]; omega
    · obtain rfl : k = s.size := by omega
      obtain rfl : b = false := by rw [← HB.out]; exact ho
      clear ho HB
      go_wp2
      go_ret
      exact ⟨rfl, rfl⟩

def Ascii (s : ByteArray) : Prop := ∀ i, i < s.size → lb s i < 128

theorem ascii_yes (s : ByteArray) (w : World) (hs : s.size ≤ 1048576) (ha : Ascii s) :
    Calls Try.prog 27 #[.string s] w fun e w' => e = .returned (.bool true) ∧ w = w' := by
  have HA : Hid (Ascii s) := ha
  clear ha
  go_enter Try.func27, Try.ntmps27
  go_wp2
  go_loop [3] (fun i => ∃ k : Nat, k ≤ s.size ∧ i = .int .i64 k) (fun i => s.size - (intOf i).toNat)
  case atStart => exact ⟨0, Nat.zero_le _, rfl⟩
  case round =>
    obtain ⟨k, hk, rfl⟩ := hrel
    by_cases hlt : k < s.size
    · have hl := lb_eq hlt
      have h1 := HA.out k hlt
      go_wp2
      go_round
      case rel => exact ⟨k + 1, by omega, by go_num⟩
      case measure => simp [intOf]; omega
    · go_wp2
      go_ret
      exact ⟨rfl, rfl⟩

theorem ascii_no (s : ByteArray) (w : World) (hs : s.size ≤ 1048576) (ha : ¬ Ascii s) :
    Calls Try.prog 27 #[.string s] w fun e w' => e = .returned (.bool false) ∧ w = w' := by
  have HA : Hid (¬ Ascii s) := ha
  clear ha
  go_enter Try.func27, Try.ntmps27
  go_wp2
  go_loop [3] (fun i => ∃ k : Nat, k ≤ s.size ∧ i = .int .i64 k ∧ ∀ j, j < k → lb s j < 128) (fun i => s.size - (intOf i).toNat)
  case atStart => exact ⟨0, Nat.zero_le _, rfl, fun j hj => absurd hj (Nat.not_lt_zero j)⟩
  case round =>
    obtain ⟨k, hk, rfl, hj⟩ := hrel
    by_cases hlt : k < s.size
    · have hl := lb_eq hlt
      by_cases h1 : lb s k < 128
      · have HJ : Hid (∀ j, j < k + 1 → lb s j < 128) := fun j hj' => by
          by_cases e : j = k
          · subst e; exact h1
          · exact hj j (by omega)
        clear hj
        go_wp2
        go_round
        case rel => exact ⟨k + 1, by omega, by go_num, HJ.out⟩
        case measure => simp [intOf]; omega
      · have h2 : 128 ≤ lb s k := by omega
        clear hj h1
        go_wp2
        go_ret
        exact ⟨rfl, rfl⟩
    · obtain rfl : k = s.size := by omega
      exact absurd hj HA.out

/-! ### the set -/
def v1 (k i : Nat) : Bool := decide (48 ≤ i ∧ i < k)
def v2 (m i : Nat) : Bool := decide (48 ≤ i ∧ i ≤ 57) || decide (97 ≤ i ∧ i < 97 + m) || decide (65 ≤ i ∧ i < 65 + m)
def v3 (s : ByteArray) (k i : Nat) : Bool := v2 26 i || occB s i k

theorem v1_step (k i : Nat) (h : 48 ≤ k) : (if i = k then Value.bool true else .bool (v1 k i)) = .bool (v1 (k + 1) i) := by
  by_cases e : i = k
  · subst e; simp [v1, h]
  · have : (48 ≤ i ∧ i < k) ↔ (48 ≤ i ∧ i < k + 1) := by omega
    simp [v1, e, this]
theorem v1_start (i : Nat) : v1 48 i = false := by
  have : ¬ (48 ≤ i ∧ i < 48) := by omega
  simp [v1, this]
theorem v1_end (i : Nat) : v1 58 i = v2 0 i := by
  have a : ¬ (97 ≤ i ∧ i < 97 + 0) := by omega
  have b : ¬ (65 ≤ i ∧ i < 65 + 0) := by omega
  have c : (48 ≤ i ∧ i < 58) ↔ (48 ≤ i ∧ i ≤ 57) := by omega
  simp only [v1, v2, a, b, c, decide_false, Bool.or_false]
theorem v2_step (m i : Nat) (h : m < 26) : (if i = m + 65 then Value.bool true else if i = m + 97 then .bool true else .bool (v2 m i)) = .bool (v2 (m + 1) i) := by
  by_cases e : i = m + 65
  · subst e; simp [v2]; omega
  · by_cases e2 : i = m + 97
    · subst e2; simp [v2]; omega
    · have a : (97 ≤ i ∧ i < 97 + (m + 1)) ↔ (97 ≤ i ∧ i < 97 + m) := by omega
      have b : (65 ≤ i ∧ i < 65 + (m + 1)) ↔ (65 ≤ i ∧ i < 65 + m) := by omega
      simp only [v2, e, e2, if_false, a, b]
theorem v2_step' (c i : Nat) (h : 97 ≤ c) (h2 : c < 123) : (if i = c - 97 + 65 then Value.bool true else if i = c then .bool true else .bool (v2 (c - 97) i)) = .bool (v2 (c + 1 - 97) i) := by
  have := v2_step (c - 97) i (by omega)
  rw [show c - 97 + 97 = c by omega, show c - 97 + 1 = c + 1 - 97 by omega] at this
  exact this
theorem v3_step (s : ByteArray) (k i : Nat) (h0 : 0 ≤ lb s k) : (if i = (lb s k).toNat then Value.bool true else .bool (v3 s k i)) = .bool (v3 s (k + 1) i) := by
  by_cases e : i = (lb s k).toNat
  · have e2 : decide (lb s k = (i : Int)) = true := by simp; omega
    rw [if_pos e]
    simp only [v3, occB, e2, Bool.or_true]
  · have e2 : decide (lb s k = (i : Int)) = false := by simp; omega
    rw [if_neg e]
    simp only [v3, occB, e2, Bool.or_false]
theorem v3_start (s : ByteArray) (i : Nat) : v2 26 i = v3 s 0 i := by simp [v3, occB]
theorem v3_aln {s : ByteArray} {k i : Nat} (h : alnB i = true) : v3 s k i = true := by
  have : v2 26 i = true := by
    simp [alnB] at h
    simp [v2]
    omega
  simp [v3, this]
theorem v3_other {s : ByteArray} {k i : Nat} (h : alnB i = false) : v3 s k i = occB s i k := by
  have : v2 26 i = false := by
    simp [alnB] at h
    simp [v2]
    omega
  simp [v3, this]

/-- What 'NewChars' leaves. -/
def SetPost (s : ByteArray) (w : World) (e : Ending) (w' : World) : Prop :=
  e = .returned (.pointer (some ⟨w.heap.size, 0, none⟩)) ∧ RowV 38 w' w.heap.size 128 (fun i => .bool (v3 s s.size i)) ∧ Below w.heap.size w w'

def zeros : Array Value := (cellsOf 128 (fun _ => .bool false)).toArray
theorem zero38 (w : World) : (zeroValue 38).run Try.prog w = .ok (.agg zeros) w := by kernel_rfl

set_option maxHeartbeats 1000000 in
theorem chars_any (s : ByteArray) (w : World) (hs : s.size ≤ 1048576) (ha : Ascii s) : Calls Try.prog 28 #[.string s] w (SetPost s w) := by
  have HA : Hid (Ascii s) := ha
  clear ha
  have hz := zero38
  go_enter Try.func28, Try.ntmps28
  go_wp2
  clear hz
  go_loopw [4] (fun cv wr => ∃ k : Nat, 48 ≤ k ∧ k ≤ 58 ∧ cv = .int .u8 k ∧ RowV 38 wr w.heap.size 128 (fun i => .bool (v1 k i)) ∧ Below w.heap.size w wr) (fun cv _ => 58 - (intOf cv).toNat)
  case atStart =>
    refine ⟨48, by decide, by decide, rfl, ?_, ?_⟩
    · exact (RowV.laid 38 w (cellsOf 128 (fun _ => .bool false)) 128 _ rfl).congr (fun i _ => by rw [v1_start])
    · exact (Below.refl _ _).alloc (Nat.le_refl _) _
  case round =>
    obtain ⟨k, k1, k2, rfl, hr, hb⟩ := hrel
    by_cases hlt : k < 58
    · have hc := hr.cell k (by omega)
      have hf := hr.frozen k
      have HR : Hid (RowV 38 wr w.heap.size 128 (fun i => .bool (v1 k i))) := hr
      have HB : Hid (Below w.heap.size w wr) := hb
      clear hr hb
      go_wp2
      go_roundw
      case rel => exact ⟨k + 1, by omega, by omega, by go_num, (HR.out.stored k _).congr (fun i _ => v1_step k i k1), HB.out.setCell (Nat.le_refl _) _⟩
      case measure => simp [intOf]; omega
    · obtain rfl : k = 58 := by omega
      have HR : Hid (RowV 38 wr w.heap.size 128 (fun i => .bool (v2 0 i))) := hr.congr (fun i _ => by rw [v1_end])
      have HB : Hid (Below w.heap.size w wr) := hb
      clear hr hb
      go_wp2
      go_loopw [5] (fun cv wr => ∃ c : Nat, 97 ≤ c ∧ c ≤ 123 ∧ cv = .int .u8 c ∧ RowV 38 wr w.heap.size 128 (fun i => .bool (v2 (c - 97) i)) ∧ Below w.heap.size w wr) (fun cv _ => 123 - (intOf cv).toNat)
      case atStart => exact ⟨97, by decide, by decide, rfl, HR.out, HB.out⟩
      case round =>
        obtain ⟨c, m0, m1, rfl, hr, hb⟩ := hrel
        clear HR HB
        by_cases hlt : c < 123
        · have hc1 := hr.cell c (by omega)
          have hf1 := hr.frozen c
          have hc2 := hr.cell (c - 97 + 65) (by omega)
          have hf2 := hr.frozen (c - 97 + 65)
          have HR : Hid (RowV 38 wr w.heap.size 128 (fun i => .bool (v2 (c - 97) i))) := hr
          have HB : Hid (Below w.heap.size w wr) := hb
          clear hr hb
          go_wp2
          go_roundw
          case rel =>
            refine ⟨c + 1, by omega, by omega, by go_num, ?_, ?_⟩
            · exact ((HR.out.stored c _).stored (c - 97 + 65) _).congr (fun i _ => v2_step' c i m0 hlt)
            · exact (HB.out.setCell (Nat.le_refl _) _).setCell (Nat.le_refl _) _
          case measure => simp [intOf]; omega
        · obtain rfl : c = 123 := by omega
          have HR : Hid (RowV 38 wr w.heap.size 128 (fun i => .bool (v3 s 0 i))) := hr.congr (fun i _ => by rw [v3_start])
          have HB : Hid (Below w.heap.size w wr) := hb
          clear hr hb
          go_wp2
          go_loopw [25] (fun iv wr => ∃ k : Nat, k ≤ s.size ∧ iv = .int .i64 k ∧ RowV 38 wr w.heap.size 128 (fun i => .bool (v3 s k i)) ∧ Below w.heap.size w wr) (fun iv _ => s.size - (intOf iv).toNat)
          case atStart => exact ⟨0, Nat.zero_le _, rfl, HR.out, HB.out⟩
          case round =>
            obtain ⟨k, hk, rfl, hr, hb⟩ := hrel
            clear HR HB
            by_cases hlt : k < s.size
            · have hl := lb_eq hlt
              have g1 := (lb_bd s k).1
              have g2 := HA.out k hlt
              have hc := hr.cell (lb s k).toNat (by omega)
              have hf := hr.frozen (lb s k).toNat
              have HR : Hid (RowV 38 wr w.heap.size 128 (fun i => .bool (v3 s k i))) := hr
              have HB : Hid (Below w.heap.size w wr) := hb
              clear hr hb
              go_wp2
              go_roundw
              case rel => exact ⟨k + 1, by omega, by go_num, (HR.out.stored _ _).congr (fun i _ => v3_step s k i g1), HB.out.setCell (Nat.le_refl _) _⟩
              case measure => simp [intOf]; omega
            · obtain rfl : k = s.size := by omega
              have HR : Hid (RowV 38 wr w.heap.size 128 (fun i => .bool (v3 s s.size i))) := hr
              have HB : Hid (Below w.heap.size w wr) := hb
              clear hr hb
              go_wp2
              go_ret
              exact ⟨rfl, HR.out, HB.out⟩

theorem zz26_yes (s : ByteArray) (w : World) (h : s.size ≤ 1048576) :
    Calls Try.prog 26 #[.string s] w fun e w' => e = .returned (.bool true) ∧ w = w' := by
  have h' : ¬ (1048576 : Int) < (s.size : Int) := by omega
  go_enter Try.func26, Try.ntmps26
  go_wp2
  go_ret
  exact ⟨rfl, rfl⟩

theorem zz26_no (s : ByteArray) (w : World) (h : 1048576 < s.size) :
    Calls Try.prog 26 #[.string s] w fun e w' => e = .returned (.bool false) ∧ w = w' := by
  have h' : (1048576 : Int) < (s.size : Int) := by omega
  go_enter Try.func26, Try.ntmps26
  go_wp2
  go_ret
  exact ⟨rfl, rfl⟩

theorem set_big (s : ByteArray) (w : World) (h : 1048576 < s.size) :
    Calls Try.prog 9 #[.string s] w fun e w' => e = .returned (.bool true) ∧ Below w.heap.size w w' := by
  go_enter Try.func9, Try.ntmps9
  go_wp2_with fail
  refine (zz26_no _ _ h).mono ?_
  rintro e w' ⟨rfl, rfl⟩
  go_wp2_with fail
  go_ret
  exact ⟨rfl, Below.refl _ _⟩

theorem set_other (s : ByteArray) (w : World) (h : s.size ≤ 1048576) (ha : ¬ Ascii s) :
    Calls Try.prog 9 #[.string s] w fun e w' => e = .returned (.bool true) ∧ Below w.heap.size w w' := by
  have HA : Hid (¬ Ascii s) := ha
  have h' : ¬ (1048576 : Int) < (s.size : Int) := by omega
  clear ha
  go_enter Try.func9, Try.ntmps9
  go_wp2_with fail
  refine (zz26_yes _ _ h).mono ?_
  rintro e w' ⟨rfl, rfl⟩
  go_wp2_with fail
  refine (ascii_no _ _ h HA.out).mono ?_
  rintro e w' ⟨rfl, rfl⟩
  go_wp2_with fail
  go_ret
  exact ⟨rfl, Below.refl _ _⟩

set_option maxRecDepth 10000 in
set_option maxHeartbeats 1000000 in
theorem set_main (s : ByteArray) (w : World) (h : s.size ≤ 1048576) (ha : Ascii s) :
    Calls Try.prog 9 #[.string s] w fun e w' => e = .returned (.bool true) ∧ Below w.heap.size w w' := by
  have HA : Hid (Ascii s) := ha
  have h' : ¬ (1048576 : Int) < (s.size : Int) := by omega
  clear ha
  go_enter Try.func9, Try.ntmps9
  go_wp2_with fail
  refine (zz26_yes _ _ h).mono ?_
  rintro e w' ⟨rfl, rfl⟩
  go_wp2_with fail
  refine (ascii_yes _ _ h HA.out).mono ?_
  rintro e w' ⟨rfl, rfl⟩
  go_wp2_with fail
  refine (chars_any s w h HA.out).mono ?_
  rintro e w1 ⟨rfl, r1, b1⟩
  have HR : Hid (RowV 38 w1 w.heap.size 128 (fun i => .bool (v3 s s.size i))) := r1
  have HB : Hid (Below w.heap.size w w1) := b1
  clear r1 b1
  go_wp2_with fail
  go_loopw [4] (fun iv wr => (∃ k : Nat, k ≤ 128 ∧ iv = .int .i64 k) ∧ w1 = wr) (fun iv _ => 128 - (intOf iv).toNat)
  case atStart => exact ⟨⟨0, by decide, rfl⟩, rfl⟩
  case round =>
    obtain ⟨⟨k, hk, rfl⟩, rfl⟩ := hrel
    by_cases hlt : k < 128
    · obtain ⟨A, hA⟩ : ∃ A, alnB (k : Int) = A := ⟨_, rfl⟩
      obtain ⟨O, hO⟩ : ∃ O, occB s (k : Int) s.size = O := ⟨_, rfl⟩
      have HA1 : Hid (alnB (k : Int) = A) := hA
      have HO : Hid (occB s (k : Int) s.size = O) := hO
      cases A with
      | true =>
        have hcell : w1.cell? ⟨w.heap.size, k, none⟩ = some (.bool true) := by rw [HR.out.cell k hlt, v3_aln hA]
        clear hA hO
        go_wp2_with fail
        refine (alnum_any _ _).mono ?_
        rw [HA1.out]
        rintro e w' ⟨rfl, rfl⟩
        go_wp2_with fail
        go_roundw
        case rel => exact ⟨⟨k + 1, by omega, by go_num⟩, trivial⟩
        case measure => simp [intOf]; omega
      | false =>
        have hcell : w1.cell? ⟨w.heap.size, k, none⟩ = some (.bool O) := by rw [HR.out.cell k hlt, v3_other hA, hO]
        clear hA hO
        go_wp2_with fail
        refine (alnum_any _ _).mono ?_
        rw [HA1.out]
        rintro e w' ⟨rfl, rfl⟩
        go_wp2_with fail
        refine (occurs_any s _ O _ h HO.out).mono ?_
        rintro e w' ⟨rfl, rfl⟩
        go_wp2_with fail
        go_roundw
        case rel => exact ⟨⟨k + 1, by omega, by go_num⟩, trivial⟩
        case measure => simp [intOf]; omega
    · go_wp2_with fail
      go_ret
      exact ⟨rfl, HB.out⟩
end Go.Proofs.Qxb6601933a
