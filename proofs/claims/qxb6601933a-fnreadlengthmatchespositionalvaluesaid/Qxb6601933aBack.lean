/-
  THE WALK OF 'FnReadLengthReadsBackItsDecimal'.
-/
import Derived.Test.Qxb6601933aDec
namespace Go.Proofs.Qxb6601933a
open Go.RowKit Plain

theorem zread_num (a : Option Addr) (m c : Nat) (f : Nat → Int) (w : World) (n : Int) (hb : Bytes w a m f) (hg : DecOk f m) (hv : val f m = n) :
    Calls Try.prog 14 #[.slice a m c] w fun e w' => e = .returned (.tuple #[.int .i64 n, .bool true]) ∧ w = w' := by
  subst hv
  exact zread_good a m c f w hb hg

theorem back_out (n : Int) (w : World) (h : n < 0 ∨ 999999999999 < n) :
    Calls Try.prog 4 #[.int .i64 n] w fun e w' => e = .returned (.bool true) ∧ Below w.heap.size w w' := by
  rcases h with h | h
  · go_enter Try.func4, Try.ntmps4
    go_wp2
    go_ret
    exact ⟨rfl, Below.refl _ _⟩
  · have h' : ¬ n < 0 := by omega
    go_enter Try.func4, Try.ntmps4
    go_wp2
    go_ret
    exact ⟨rfl, Below.refl _ _⟩

theorem fill_step (j k : Nat) : (if j = k then (48 : Int) else if j < k then 48 else 0) = if j < k + 1 then 48 else 0 := by
  by_cases h : j = k
  · subst h; simp
  · by_cases h2 : j < k
    · have : j < k + 1 := by omega
      simp [h2, this]
    · have : ¬ j < k + 1 := by omega
      simp [h, h2, this]

theorem zread_long (a : Option Addr) (n c : Nat) (w : World) (hn : 12 < n) :
    Calls Try.prog 14 #[.slice a n c] w fun e w' => e = .returned (.tuple #[.int .i64 (-1), .bool false]) ∧ w = w' := by
  have H : Hid (Calls Try.prog 33 #[.slice a n c] w fun e w' => e = .returned (.tuple #[.int .i64 (-1), .bool false]) ∧ w = w') := read_short a n c w (.inr hn)
  go_enter Try.func14, Try.ntmps14
  go_wp2_with (go_at_call 33; refine H.out.mono ?_; rintro e w' ⟨rfl, rfl⟩)
  go_ret2
  exact ⟨rfl, rfl⟩

/-- Zeros ahead of m digits, up to twelve. -/
def padded (m : Nat) (f : Nat → Int) : Nat → Int := fun i => if 12 - m ≤ i ∧ i < 12 - m + m then f (i - (12 - m)) else 48
theorem padded_eq (m : Nat) (f : Nat → Int) (i : Nat) (hi : i < 12) : (if 12 - m ≤ i ∧ i < 12 - m + m then f (i - (12 - m)) else if i < 12 then 48 else 0) = padded m f i := by
  unfold padded
  simp [hi]
theorem padded_ok {m : Nat} {f : Nat → Int} (h : DecOk f m) : DecOk (padded m f) 12 := by
  refine ⟨by decide, by decide, fun i hi => ?_⟩
  unfold padded
  by_cases c : 12 - m ≤ i ∧ i < 12 - m + m
  · rw [if_pos c]; exact h.2.2 _ (by omega)
  · rw [if_neg c]; decide
theorem padded_val {m : Nat} {f : Nat → Int} (h : DecOk f m) : val (padded m f) 12 = val f m := by
  have hm := h.2.1
  have e : 12 = (12 - m) + m := by omega
  have := val_zeros (f := f) (g := padded m f) (12 - m) (fun i hi => by unfold padded; rw [if_neg (by omega)]) (n := m) (fun i hi => by unfold padded; rw [if_pos (by omega)]; congr 1; omega)
  rw [← e] at this
  exact this

set_option maxHeartbeats 400000 in
theorem back_in (n : Int) (w : World) (h1 : 0 ≤ n) (h2 : n ≤ 999999999999) :
    Calls Try.prog 4 #[.int .i64 n] w fun e w' => e = .returned (.bool true) ∧ Below w.heap.size w w' := by
  have h3 : ¬ n < 0 := by omega
  have h4 : ¬ 999999999999 < n := by omega
  go_enter Try.func4, Try.ntmps4
  go_wp2_with fail
  refine (dec_any n h1 h2 w).mono ?_
  rintro e w1 ⟨g, m, f, rfl, hg, hr, hok, hv, hb⟩
  have HV : Hid (val f m = n) := hv
  have HR : Hid (Row w1 g m f) := hr
  have HO : Hid (DecOk f m) := hok
  have HB : Hid (Below w.heap.size w w1) := hb
  have hm1 := hok.1
  have hm2 := hok.2.1
  have hg1 := hr.lt
  clear hv hr hok hb
  obtain ⟨w2, hmk, r1, b1, s1⟩ := make_row 12 (by decide) w1
  have HR1 : Hid (Row w2 w1.heap.size 12 (fun _ => 0)) := r1
  have HB1 : Hid (Below w1.heap.size w1 w2) := b1
  clear r1 b1 s1
  have hmk' : (Instr.makeSlice 22 (.int .i64 12) (.int .i64 12)).run Try.prog w1 = .ok (.slice (some ⟨w1.heap.size, 0, none⟩) 12 12) w2 := hmk
  clear hmk
  go_wp2_with fail
  refine (zread_num _ _ _ f _ n HR.out.bytes HO.out HV.out).mono ?_
  rintro e w' ⟨rfl, rfl⟩
  go_wp2_with fail
  go_loopw [7] (fun iv wr => ∃ k : Nat, k ≤ 12 ∧ iv = .int .i64 k ∧ Row wr w1.heap.size 12 (fun j => if j < k then 48 else 0) ∧ Below w1.heap.size w1 wr) (fun iv _ => 12 - (intOf iv).toNat)
  case atStart => exact ⟨0, by omega, rfl, HR1.out.congr (fun i _ => by simp), HB1.out⟩
  case round =>
    obtain ⟨k, hk, rfl, hrow, hbel⟩ := hrel
    by_cases hlt : k < 12
    · have hfr := hrow.frozen k
      have hcl := hrow.cell k hlt
      have HR2 : Hid (Row wr w1.heap.size 12 (fun j => if j < k then 48 else 0)) := hrow
      have HB2 : Hid (Below w1.heap.size w1 wr) := hbel
      clear hrow hbel
      go_wp2_with fail
      go_roundw
      case rel => exact ⟨k + 1, by omega, by go_num, (HR2.out.stored k 48).congr (fun j _ => fill_step j k), HB2.out.setCell (Nat.le_refl _) _⟩
      case measure => simp [intOf]; omega
    · have e : k = 12 := by omega
      subst e
      have hby := (HR.out.kept hbel hg1).bytes
      obtain ⟨w3, hcp, r3, o3, b3, s3⟩ := copy_row wr w1.heap.size 12 _ hrow (some ⟨w1.heap.size, 12 - m, none⟩) (some ⟨g, 0, none⟩) (12 - (12 - m)) (12 - (12 - m)) m m (12 - m) m f hby (by omega) (fun _ => rfl) (by omega)
      have HR3 : Hid (Row w3 w1.heap.size 12 (padded m f)) := r3.congr (fun i hi => padded_eq m f i hi)
      have HB3 : Hid (Below w.heap.size w w3) := (HB.out.trans (hbel.mono HB.out.size)).trans (b3.mono HB.out.size)
      have hz3 : w.heap.size ≤ w3.heap.size := HB3.out.size
      obtain ⟨w4, hmk4, r4, b4, s4⟩ := make_row 13 (by decide) w3
      have hmk4' : (Instr.makeSlice 22 (.int .i64 13) (.int .i64 13)).run Try.prog w3 = .ok (.slice (some ⟨w3.heap.size, 0, none⟩) 13 13) w4 := hmk4
      have hc4 := r4.cell 0 (by decide)
      have hf4 := r4.frozen 0
      have r5 := r4.stored 0 48
      obtain ⟨w5, hcp5, r5', o5, b5, s5⟩ := copy_row _ w3.heap.size 13 _ r5 (some ⟨w3.heap.size, 1, none⟩) (some ⟨w1.heap.size, 0, none⟩) 12 12 12 12 1 12 _ (((r3.kept b4 r3.lt).aside _ _ (Nat.ne_of_lt r3.lt)).bytes) (by simp) (fun _ => rfl) (by omega)
      have HB5 : Hid (Below w.heap.size w w5) := ((HB3.out.trans (b4.mono hz3)).setCell (by simpa using hz3) _).trans (b5.mono hz3)
      clear hrow hbel hby r3 o3 b3 s3 r4 b4 s4 r5 r5' o5 b5 s5 hmk4
      go_wp2_with fail
      refine (zread_num _ _ _ (padded m f) _ n HR3.out.bytes (padded_ok HO.out) (by rw [padded_val HO.out]; exact HV.out)).mono ?_
      rintro e w' ⟨rfl, rfl⟩
      go_wp2_with fail
      refine (zread_long _ _ _ _ (by decide)).mono ?_
      rintro e w' ⟨rfl, rfl⟩
      go_wp2_with fail
      go_ret
      exact ⟨rfl, HB5.out⟩
end Go.Proofs.Qxb6601933a
