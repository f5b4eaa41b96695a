/-
  THE WALK OF 'decimalDigits'.
-/
import Derived.Test.Qxb6601933aRow
namespace Go.Proofs.Qxb6601933a
open Go.RowKit Plain

theorem val_cons (g : Nat → Int) : ∀ d : Nat, val g (d + 1) = (g 0 - 48) * 10 ^ d + val (fun k => g (k + 1)) d
  | 0 => by simp [val]
  | d + 1 => by
    have ih := val_cons g d
    show 10 * val g (d + 1) + (g (d + 1) - 48) = (g 0 - 48) * 10 ^ (d + 1) + (10 * val (fun k => g (k + 1)) d + (g (d + 1) - 48))
    rw [ih, Int.pow_succ]
    have : (g 0 - 48) * (10 ^ d * 10) = 10 * ((g 0 - 48) * 10 ^ d) := by rw [← Int.mul_assoc, Int.mul_comm]
    omega

theorem step_eq (q r p : Int) : (10 * q + r) * p = q * (p * 10) + (48 + r - 48) * p := by
  have e : 48 + r - 48 = r := by omega
  rw [e, Int.add_mul, Int.mul_comm 10 q, Int.mul_assoc, Int.mul_comm 10 p]

/-- What the loop keeps: of n the number m is still to be written; d digits stand at the buffer's end. -/
def Left (n m : Int) (i : Nat) (f : Nat → Int) : Prop :=
  i ≤ 20 ∧ 0 ≤ m ∧ Digs (fun k => f (i + k)) (20 - i) ∧ n = m * 10 ^ (20 - i) + val (fun k => f (i + k)) (20 - i)

theorem left_lo {n m : Int} {i : Nat} {f : Nat → Int} (h : Left n m i f) (hn : n ≤ 999999999999) (hm : 0 < m) : 9 ≤ i := by
  obtain ⟨h1, h2, h3, h4⟩ := h
  by_cases hi : 9 ≤ i
  · exact hi
  · have hv := (val_bd h3).1
    obtain ⟨d, hd⟩ : ∃ d, 20 - i = 12 + d := ⟨20 - i - 12, by omega⟩
    have hp : (1 : Int) ≤ 10 ^ d := by
      have : (0 : Int) < 10 ^ d := Int.pow_pos (by decide)
      omega
    have e : (10 : Int) ^ (20 - i) = 1000000000000 * 10 ^ d := by rw [hd, Int.pow_add]; rfl
    have hge : (1000000000000 : Int) ≤ 10 ^ (20 - i) := by rw [e]; omega
    have : (1 : Int) * 10 ^ (20 - i) ≤ m * 10 ^ (20 - i) := Int.mul_le_mul_of_nonneg_right (by omega) (by omega)
    omega

theorem left_end {n : Int} {i : Nat} {f : Nat → Int} (h : Left n 0 i f) (hn : 0 < n) : i < 20 := by
  obtain ⟨h1, h2, h3, h4⟩ := h
  by_cases hi : i < 20
  · exact hi
  · obtain rfl : i = 20 := by omega
    simp [val] at h4
    omega

theorem left_step {n m : Int} {i : Nat} {f : Nat → Int} (h : Left n m (i + 1) f) : Left n (m / 10) i (fun j => if j = i then 48 + m % 10 else f j) := by
  obtain ⟨h1, h2, h3, h4⟩ := h
  have e : 20 - i = (20 - (i + 1)) + 1 := by omega
  have e2 : ∀ k, (fun k => (fun j => if j = i then 48 + m % 10 else f j) (i + k)) (k + 1) = f (i + 1 + k) := by
    intro k
    show (if i + (k + 1) = i then _ else f (i + (k + 1))) = _
    rw [if_neg (by omega)]
    congr 1
    omega
  refine ⟨by omega, by omega, ?_, ?_⟩
  · intro k hk
    match k with
    | 0 => simp; omega
    | k + 1 =>
      have := h3 k (by omega)
      rw [e2 k]
      exact this
  · rw [e, val_cons]
    have e3 : val (fun k => (fun k => (fun j => if j = i then 48 + m % 10 else f j) (i + k)) (k + 1)) (20 - (i + 1)) = val (fun k => f (i + 1 + k)) (20 - (i + 1)) := val_congr (fun k _ => e2 k)
    rw [e3, h4]
    simp only [Nat.add_zero, if_true]
    rw [Int.pow_succ]
    generalize (10 : Int) ^ (20 - (i + 1)) = p
    have hm : m = 10 * (m / 10) + m % 10 := by omega
    have hs := step_eq (m / 10) (m % 10) p
    rw [← hm] at hs
    omega

/-- What 'decimalDigits' leaves: a row of its own with n's digits. -/
def DecPost (n : Int) (w : World) (e : Ending) (w' : World) : Prop :=
  ∃ g m f, e = .returned (.slice (some ⟨g, 0, none⟩) m m) ∧ w.heap.size ≤ g ∧ Row w' g m f ∧ DecOk f m ∧ val f m = n ∧ Below w.heap.size w w'

theorem len39 : Try.prog.arrayLen 39 = 20 := by kernel_rfl
theorem elem39 : Try.prog.elem 39 = 5 := by kernel_rfl
theorem slice_buf (b i : Nat) (hi : i < 20) (w : World) :
    (Instr.sliceAt 39 (.pointer (some ⟨b, 0, none⟩)) (some (.int .i64 i)) none none).run Try.prog w = .ok (.slice (some ⟨b, i, none⟩) (20 - i) (20 - i)) w := by
  obtain ⟨inf, hinf, hz0, hz1, hz2⟩ := info_parts info5
  have h := run_sliceAt_array_l (P := Try.prog) w 39 ⟨b, 0, none⟩ (by rw [len39, elem39]; exact Try.underlying39) .i64 (i : Int) (by omega) (by rw [len39]; omega)
  rw [h, elem39, len39]
  have hne : ¬ 20 = i := by omega
  simp [sizeOf, typeInfo, hinf, hz1, slicedAt, hne, Addr.add_lit]

theorem dec_zero (w : World) :
    Calls Try.prog 16 #[.int .i64 0] w (DecPost 0 w) := by
  go_enter Try.func16, Try.ntmps16
  go_wp2
  go_ret
  refine ⟨w.heap.size, 1, fun _ => 48, rfl, Nat.le_refl _, ?_, ⟨by decide, by decide, fun i _ => by simp⟩, rfl, ?_⟩
  · exact RowV.laid 5 w _ 1 _ rfl
  · exact (Below.refl _ _).alloc (Nat.le_refl _) _

set_option maxHeartbeats 400000 in
theorem dec_pos (n : Int) (h1 : 0 < n) (h2 : n ≤ 999999999999) (w : World) :
    Calls Try.prog 16 #[.int .i64 n] w (DecPost n w) := by
  have h0 : (n == 0) = false := by simp; omega
  go_enter Try.func16, Try.ntmps16
  go_wp2
  go_loopw [4, 0] (fun iv nv wr => ∃ (m : Int) (i : Nat) (f : Nat → Int), iv = .int .i64 i ∧ nv = .int .i64 m ∧ Left n m i f ∧ 8 ≤ i ∧ m ≤ n ∧ RowV 39 wr w.heap.size 20 (fun k => .int .u8 (f k)) ∧ Below w.heap.size w wr ∧ wr.heap.size = w.heap.size + 1) (fun _ nv _ => (intOf nv).toNat)
  case atStart =>
    refine ⟨n, 20, fun _ => 0, rfl, rfl, ⟨by decide, by omega, fun k hk => by omega, by simp [val]⟩, by decide, Int.le_refl _, ?_, ?_, ?_⟩
    · exact RowV.laid 39 w _ 20 _ rfl
    · exact (Below.refl _ _).alloc (Nat.le_refl _) _
    · simp
  case round =>
    obtain ⟨m, i, f, rfl, rfl, hL, hlo, hmn, hrow, hbel, hsz⟩ := hrel
    have hm0 := hL.2.1
    by_cases hm : 0 < m
    · have hi := left_lo hL h2 hm
      have hi2 := hL.1
      obtain ⟨i, rfl⟩ : ∃ i', i = i' + 1 := ⟨i - 1, by omega⟩
      have hfr := hrow.frozen i
      have hcl := hrow.cell i (by omega)
      have HR : Hid (RowV 39 wr w.heap.size 20 (fun k => .int .u8 (f k))) := hrow
      have HL : Hid (Left n m (i + 1) f) := hL
      clear hL hrow
      go_wp2
      go_roundw
      case rel =>
        refine ⟨m / 10, i, _, rfl, rfl, left_step HL.out, by omega, by omega, ?_, ?_, ?_⟩
        · exact RowV.congr (HR.out.stored i _) (fun j _ => by by_cases e : j = i <;> simp [e])
        · exact hbel.setCell (Nat.le_refl _) _
        · simpa using hsz
      case measure => simp [intOf]; omega
    · have e : m = 0 := by omega
      subst e
      have hi := left_end hL h1
      have hby : Bytes wr (some ⟨w.heap.size, i, none⟩) (20 - i) (fun k => f (i + k)) := .inr ⟨_, _, rfl, fun k hk => hrow.cell (i + k) (by omega)⟩
      obtain ⟨w1, hmk, r1, b1, s1⟩ := make_row (20 - i) (by omega) wr
      obtain ⟨w2, hcp, r2, o2, b2, s2⟩ := copy_row w1 wr.heap.size (20 - i) _ r1 (some ⟨wr.heap.size, 0, none⟩) (some ⟨w.heap.size, i, none⟩) (20 - i) (20 - i) (20 - i) (20 - i) 0 (20 - i) _ (hby.kept b1) (by simp) (fun _ => rfl) (by omega)
      have HR : Hid (Row w2 wr.heap.size (20 - i) (fun k => f (i + k))) := r2.congr (fun i hi => by rw [if_pos (by omega)]; simp)
      have HB : Hid (Below w.heap.size w w2) := (hbel.trans (b1.mono hbel.size)).trans (b2.mono hbel.size)
      have HZ : Hid (w.heap.size ≤ wr.heap.size) := hbel.size
      have HL : Hid (Left n 0 i f) := hL
      have ed : ((20 - i : Nat) : Int) = 20 - (i : Int) := by omega
      rw [ed] at hmk
      clear r1 b1 s1 r2 o2 b2 s2 hL hby hrow hsz hbel ed
      have hsl := slice_buf w.heap.size i hi w1
      go_wp2
      go_ret
      exact ⟨wr.heap.size, 20 - i, fun k => f (i + k), rfl, HZ.out, HR.out, ⟨by omega, by omega, HL.out.2.2.1⟩, by have := HL.out.2.2.2; simpa using this.symm, HB.out⟩

theorem dec_any (n : Int) (h1 : 0 ≤ n) (h2 : n ≤ 999999999999) (w : World) : Calls Try.prog 16 #[.int .i64 n] w (DecPost n w) := by
  by_cases h : n = 0
  · subst h; exact dec_zero w
  · exact dec_pos n (by omega) h2 w
end Go.Proofs.Qxb6601933a
