/-
  THE WALK OF 'FnEqualFoldIgnoresTheCaseOfB'.
-/
import Derived.Test.Qxb6601933aTable
import Derived.Laws.BytesArg
namespace Go.Proofs.Qxb6601933a
open Go.RowKit Plain

theorem zz22_yes (a : Option Addr) (n c : Nat) (s : ByteArray) (w : World) (h : n + s.size ≤ 1048576) :
    Calls Try.prog 22 #[.slice a n c, .string s] w fun e w' => e = .returned (.bool true) ∧ w = w' := by
  have h1 : ¬ (1048576 : Int) < (n : Int) := by omega
  have h2 : ¬ (1048576 : Int) < (s.size : Int) := by omega
  have h3 : ¬ (1048576 : Int) < (n : Int) + (s.size : Int) := by omega
  go_enter Try.func22, Try.ntmps22
  go_wp2
  go_ret
  exact ⟨rfl, rfl⟩

theorem zz22_no (a : Option Addr) (n c : Nat) (s : ByteArray) (w : World) (h : 1048576 < n + s.size) (hm : s.size ≤ maxLen) :
    Calls Try.prog 22 #[.slice a n c, .string s] w fun e w' => e = .returned (.bool false) ∧ w = w' := by
  unfold maxLen at hm
  by_cases h1 : (1048576 : Int) < (n : Int)
  · go_enter Try.func22, Try.ntmps22
    go_wp2
    go_ret
    exact ⟨rfl, rfl⟩
  · by_cases h2 : (1048576 : Int) < (s.size : Int)
    · go_enter Try.func22, Try.ntmps22
      go_wp2
      go_ret
      exact ⟨rfl, rfl⟩
    · have h3 : (1048576 : Int) < (n : Int) + (s.size : Int) := by omega
      go_enter Try.func22, Try.ntmps22
      go_wp2
      go_ret
      exact ⟨rfl, rfl⟩

theorem case_big (a : Option Addr) (n c : Nat) (s : ByteArray) (w : World) (h : 1048576 < n + s.size) (hm : s.size ≤ maxLen) :
    Calls Try.prog 7 #[.slice a n c, .string s] w fun e w' => e = .returned (.bool true) ∧ Below w.heap.size w w' := by
  go_enter Try.func7, Try.ntmps7
  go_wp2_with fail
  refine (zz22_no _ _ _ _ _ h hm).mono ?_
  rintro e w' ⟨rfl, rfl⟩
  go_wp2_with fail
  go_ret
  exact ⟨rfl, Below.refl _ _⟩

/-- ASCII's upper case. -/
def upc (c : Int) : Int := if 97 ≤ c ∧ c ≤ 122 then c - 32 else c
theorem low_not {c : Int} (h : ¬ (65 ≤ c ∧ c ≤ 90)) : low c = c := if_neg h
theorem low_upc (c : Int) : low (upc c) = low c := by
  unfold upc
  by_cases h : 97 ≤ c ∧ c ≤ 122
  · rw [if_pos h, low_up (by omega) (by omega), low_not (c := c) (by omega)]
    omega
  · rw [if_neg h]
theorem low_low (c : Int) : low (low c) = low c := by
  by_cases h : 65 ≤ c ∧ c ≤ 90
  · rw [low_up h.1 h.2, low_not (by omega)]
  · rw [low_not h, low_not h]
theorem low_bd {c : Int} (h1 : 0 ≤ c) (h2 : c ≤ 255) : 0 ≤ low c ∧ low c ≤ 255 := by
  by_cases h : 65 ≤ c ∧ c ≤ 90
  · rw [low_up h.1 h.2]; omega
  · rw [low_not h]; omega

/-- 'string(b)', b a row of the call's own. -/
theorem str_row {w : World} {g n : Nat} {f : Nat → Int} (h : Row w g n f) (hbd : ∀ i, i < n → 0 ≤ f i ∧ f i ≤ 255) :
    ∃ s, (convert 22 9 (.slice (some ⟨g, 0, none⟩) n n)).run Try.prog w = .ok (.string s) w ∧ s.size = n ∧ ∀ i, i < n → lb s i = f i := by
  have hr := run_convert_bytes_arg (P := Try.prog) w 22 5 Try.underlying22 Try.underlying5 g 0 n n ((List.range n).map f) (by simp) (fun i hi => by
    have := h.cell i hi
    simp [this, hi]) 9 Try.underlying9
  refine ⟨_, hr, by rw [strOfNums_size]; simp, fun i hi => ?_⟩
  have hs : i < (strOfNums ((List.range n).map f)).size := by rw [strOfNums_size]; simpa using hi
  rw [← lb_eq hs]
  have hb := hbd i hi
  have e : (strOfNums ((List.range n).map f))[i] = UInt8.ofNat (f i).toNat := by
    simp [strOfNums, ByteArray.getElem_eq_getElem_data]
  rw [e]
  simp
  omega

theorem upper_any (c : Int) (w : World) :
    Calls Try.prog 23 #[.int .u8 c] w fun e w' => e = .returned (.int .u8 (upc c)) ∧ w = w' := by
  unfold upc
  by_cases h1 : 97 ≤ c
  · by_cases h2 : c ≤ 122
    · rw [if_pos ⟨h1, h2⟩]
      go_enter Try.func23, Try.ntmps23
      go_wp2
      go_ret
      exact ⟨rfl, rfl⟩
    · rw [if_neg (by omega)]
      go_enter Try.func23, Try.ntmps23
      go_wp2
      go_ret
      exact ⟨rfl, rfl⟩
  · rw [if_neg (by omega)]
    go_enter Try.func23, Try.ntmps23
    go_wp2
    go_ret
    exact ⟨rfl, rfl⟩

theorem lower_any (c : Int) (w : World) :
    Calls Try.prog 24 #[.int .u8 c] w fun e w' => e = .returned (.int .u8 (low c)) ∧ w = w' := by
  unfold low
  by_cases h1 : 65 ≤ c
  · by_cases h2 : c ≤ 90
    · rw [if_pos ⟨h1, h2⟩]
      go_enter Try.func24, Try.ntmps24
      go_wp2
      go_ret
      exact ⟨rfl, rfl⟩
    · rw [if_neg (by omega)]
      go_enter Try.func24, Try.ntmps24
      go_wp2
      go_ret
      exact ⟨rfl, rfl⟩
  · rw [if_neg (by omega)]
    go_enter Try.func24, Try.ntmps24
    go_wp2
    go_ret
    exact ⟨rfl, rfl⟩

theorem fans_upc {f : Nat → Int} {n : Nat} {s : ByteArray} {B : Bool} (h : FAns f n s B) : FAns (fun i => upc (f i)) n s B := by
  have e : Fold (fun i => upc (f i)) n s ↔ Fold f n s := by simp only [Fold, low_upc]
  unfold FAns at *
  rwa [e]
theorem fans_low {f : Nat → Int} {n : Nat} {s : ByteArray} {B : Bool} (h : FAns f n s B) : FAns (fun i => low (f i)) n s B := by
  have e : Fold (fun i => low (f i)) n s ↔ Fold f n s := by simp only [Fold, low_low]
  unfold FAns at *
  rwa [e]

theorem step_fill (g : Nat → Int) (j k : Nat) : (if j = k then g k else if j < k then g j else 0) = if j < k + 1 then g j else 0 := by
  by_cases h : j = k
  · subst h; simp
  · by_cases h2 : j < k
    · have : j < k + 1 := by omega
      simp [h, h2, this]
    · have : ¬ j < k + 1 := by omega
      simp [h, h2, this]

set_option maxHeartbeats 1600000 in
theorem case_some (x : Addr) (n c : Nat) (f : Nat → Int) (s : ByteArray) (w : World) (hn : n + s.size ≤ 1048576) (hb : Bytes w (some x) n f) (hbd : ∀ i, i < n → 0 ≤ f i ∧ f i ≤ 255) :
    Calls Try.prog 7 #[.slice (some x) n c, .string s] w fun e w' => e = .returned (.bool true) ∧ Below w.heap.size w w' := by
  have HB : Hid (Bytes w (some x) n f) := hb
  have HD : Hid (∀ i, i < n → 0 ≤ f i ∧ f i ≤ 255) := hbd
  clear hb hbd
  have hn1 : ¬ (1048576 : Int) < (n : Int) := by omega
  have hn2 : ¬ (1048576 : Int) - (n : Int) < (s.size : Int) := by omega
  obtain ⟨B, ha⟩ := fans_ex f n s
  have HA : Hid (FAns f n s B) := ha
  clear ha
  go_enter Try.func7, Try.ntmps7
  go_wp2_with fail
  refine (zz22_yes _ _ _ _ _ hn).mono ?_
  rintro e w' ⟨rfl, rfl⟩
  go_wp2_with fail
  refine (clone_some x n c f w (by omega) HB.out).mono ?_
  rintro e w1 ⟨rfl, r1, b1, s1⟩
  obtain ⟨w2, hmk2, r2, b2, s2⟩ := make_row n (by omega) w1
  obtain ⟨w3, hmk3, r3, b3, s3⟩ := make_row n (by omega) w2
  have HR1 : Hid (Row w3 w.heap.size n f) := (r1.kept b2 r1.lt).kept b3 (by have := r1.lt; omega)
  have HR2 : Hid (Row w3 w1.heap.size n (fun _ => 0)) := r2.kept b3 r2.lt
  have HR3 : Hid (Row w3 w2.heap.size n (fun _ => 0)) := r3
  have HB3 : Hid (Below w.heap.size w w3) := (b1.trans (b2.mono b1.size)).trans (b3.mono (by omega))
  have z1 : w.heap.size < w1.heap.size := by omega
  have z2 : w1.heap.size < w2.heap.size := by omega
  clear r1 b1 s1 r2 b2 s2 r3 b3 s3
  go_wp2_with fail
  go_loopw [7] (fun iv wr => ∃ k : Nat, k ≤ n ∧ iv = .int .i64 k ∧ Row wr w.heap.size n f ∧ Row wr w1.heap.size n (fun j => if j < k then upc (f j) else 0) ∧ Row wr w2.heap.size n (fun j => if j < k then low (f j) else 0) ∧ Below w.heap.size w wr) (fun iv _ => n - (intOf iv).toNat)
  case atStart => exact ⟨0, Nat.zero_le _, rfl, HR1.out, HR2.out.congr (fun i _ => by simp), HR3.out.congr (fun i _ => by simp), HB3.out⟩
  case round =>
    obtain ⟨k, hk, rfl, hr1, hr2, hr3, hbel⟩ := hrel
    by_cases hlt : k < n
    · have c1 := hr1.cell k hlt
      have c2 := hr2.cell k hlt
      have f2 := hr2.frozen k
      have c3 := hr3.cell k hlt
      have f3 := hr3.frozen k
      have G1 : Hid (Row wr w.heap.size n f) := hr1
      have G2 : Hid (Row wr w1.heap.size n (fun j => if j < k then upc (f j) else 0)) := hr2
      have G3 : Hid (Row wr w2.heap.size n (fun j => if j < k then low (f j) else 0)) := hr3
      have GB : Hid (Below w.heap.size w wr) := hbel
      clear hr1 hr2 hr3 hbel
      go_wp2_with (first | (go_at_call 23; refine (upper_any _ _).mono ?_; rintro e w' ⟨rfl, rfl⟩) | (go_at_call 24; refine (lower_any _ _).mono ?_; rintro e w' ⟨rfl, rfl⟩))
      go_roundw
      case rel =>
        refine ⟨k + 1, by omega, by go_num, ?_, ?_, ?_, ?_⟩
        · exact (G1.out.aside _ _ (Nat.ne_of_lt z1)).aside _ _ (Nat.ne_of_lt (Nat.lt_trans z1 z2))
        · exact ((G2.out.stored k _).aside _ _ (Nat.ne_of_lt z2)).congr (fun j _ => step_fill (fun i => upc (f i)) j k)
        · exact ((G3.out.aside _ _ (Nat.ne_of_gt z2)).stored k _).congr (fun j _ => step_fill (fun i => low (f i)) j k)
        · exact (GB.out.setCell (p := ⟨w1.heap.size, k, none⟩) (Nat.le_of_lt z1) _).setCell (p := ⟨w2.heap.size, k, none⟩) (by show w.heap.size ≤ w2.heap.size; omega) _
      case measure => simp [intOf]; omega
    · have e : k = n := by omega
      subst e
      have G1 : Hid (Row wr w.heap.size k f) := hr1
      have G2 : Hid (Row wr w1.heap.size k (fun i => upc (f i))) := hr2.congr (fun i hi => by rw [if_pos hi])
      have G3 : Hid (Row wr w2.heap.size k (fun i => low (f i))) := hr3.congr (fun i hi => by rw [if_pos hi])
      have GB : Hid (Below w.heap.size w wr) := hbel
      clear hr1 hr2 hr3 hbel
      obtain ⟨t, hcv, ht1, ht2⟩ := str_row G3.out (fun i hi => low_bd (HD.out i hi).1 (HD.out i hi).2)
      have T1 : Hid (FAns f k t true) := .inl ⟨⟨ht1.symm, fun i hi => (ht2 i hi).symm⟩, rfl⟩
      clear ht1 ht2
      go_wp2_with fail
      refine (zef_ans _ _ _ f s _ B (by omega) G1.out.bytes HA.out).mono ?_
      rintro e w' ⟨rfl, rfl⟩
      go_wp2_with fail
      refine (zef_ans _ _ _ _ s _ B (by omega) G2.out.bytes (fans_upc HA.out)).mono ?_
      rintro e w' ⟨rfl, rfl⟩
      go_wp2_with fail
      refine (zef_ans _ _ _ _ s _ B (by omega) G3.out.bytes (fans_low HA.out)).mono ?_
      rintro e w' ⟨rfl, rfl⟩
      go_wp2_with fail
      refine (zef_ans _ _ _ f t _ true (by omega) G1.out.bytes T1.out).mono ?_
      rintro e w' ⟨rfl, rfl⟩
      go_wp2_with fail
      refine (zef_ans _ _ _ _ t _ true (by omega) G2.out.bytes (fans_upc T1.out)).mono ?_
      rintro e w' ⟨rfl, rfl⟩
      go_wp2_with fail
      refine (zef_ans _ _ _ _ t _ true (by omega) G3.out.bytes (fans_low T1.out)).mono ?_
      rintro e w' ⟨rfl, rfl⟩
      go_wp2_with fail
      go_ret
      exact ⟨rfl, GB.out⟩

set_option maxHeartbeats 800000 in
theorem case_nil (s : ByteArray) (w : World) (hn : s.size ≤ 1048576) :
    Calls Try.prog 7 #[.slice none 0 0, .string s] w fun e w' => e = .returned (.bool true) ∧ Below w.heap.size w w' := by
  have hn2 : ¬ (1048576 : Int) < (s.size : Int) := by omega
  obtain ⟨w2, hmk2', r2, b2, s2⟩ := make_row 0 (by omega) w
  obtain ⟨w3, hmk3', r3, b3, s3⟩ := make_row 0 (by omega) w2
  have hmk2 : (Instr.makeSlice 22 (.int .i64 0) (.int .i64 0)).run Try.prog w = .ok (.slice (some ⟨w.heap.size, 0, none⟩) 0 0) w2 := hmk2'
  have hmk3 : (Instr.makeSlice 22 (.int .i64 0) (.int .i64 0)).run Try.prog w2 = .ok (.slice (some ⟨w2.heap.size, 0, none⟩) 0 0) w3 := hmk3'
  obtain ⟨t, hcv, ht1, ht2⟩ := str_row r3 (fun i hi => absurd hi (Nat.not_lt_zero i))
  have T1 : Hid (FAns (fun _ => 0) 0 t true) := .inl ⟨⟨ht1.symm, fun i hi => absurd hi (Nat.not_lt_zero i)⟩, rfl⟩
  obtain ⟨B, ha⟩ := fans_ex (fun _ => 0) 0 s
  have HA : Hid (FAns (fun _ => 0) 0 s B) := ha
  have HB : Hid (Below w.heap.size w w3) := b2.trans (b3.mono (by omega))
  clear ha ht1 ht2 hmk2' hmk3' r2 b2 s2 r3 b3 s3
  go_enter Try.func7, Try.ntmps7
  go_wp2_with fail
  refine (zz22_yes _ _ _ _ _ (by omega)).mono ?_
  rintro e w' ⟨rfl, rfl⟩
  go_wp2_with fail
  refine (clone_nil w).mono ?_
  rintro e w1 ⟨rfl, rfl⟩
  go_wp2_with fail
  refine wp_loop_rounds 1 ?_
  rw [rounds_succ]
  go_wp2_with fail
  refine (zef_ans _ _ _ (fun _ => 0) s _ B (by omega) (.inl rfl) HA.out).mono ?_
  rintro e w' ⟨rfl, rfl⟩
  go_wp2_with fail
  refine (zef_ans _ _ _ (fun _ => 0) s _ B (by omega) (.inl rfl) HA.out).mono ?_
  rintro e w' ⟨rfl, rfl⟩
  go_wp2_with fail
  refine (zef_ans _ _ _ (fun _ => 0) s _ B (by omega) (.inl rfl) HA.out).mono ?_
  rintro e w' ⟨rfl, rfl⟩
  go_wp2_with fail
  refine (zef_ans _ _ _ (fun _ => 0) t _ true (by omega) (.inl rfl) T1.out).mono ?_
  rintro e w' ⟨rfl, rfl⟩
  go_wp2_with fail
  refine (zef_ans _ _ _ (fun _ => 0) t _ true (by omega) (.inl rfl) T1.out).mono ?_
  rintro e w' ⟨rfl, rfl⟩
  go_wp2_with fail
  refine (zef_ans _ _ _ (fun _ => 0) t _ true (by omega) (.inl rfl) T1.out).mono ?_
  rintro e w' ⟨rfl, rfl⟩
  go_wp2_with fail
  go_ret
  exact ⟨rfl, HB.out⟩
end Go.Proofs.Qxb6601933a
