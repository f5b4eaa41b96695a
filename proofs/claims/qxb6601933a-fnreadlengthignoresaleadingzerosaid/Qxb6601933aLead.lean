/-
  THE WALK OF 'FnReadLengthIgnoresALeadingZero'.
-/
import Derived.Test.Qxb6601933aBack
namespace Go.Proofs.Qxb6601933a
open Go.RowKit Plain

theorem zz17_yes (a : Option Addr) (n c : Nat) (w : World) (h : n ≤ 1048576) :
    Calls Try.prog 17 #[.slice a n c] w fun e w' => e = .returned (.bool true) ∧ w = w' := by
  have h' : ¬ (1048576 : Int) < (n : Int) := by omega
  go_enter Try.func17, Try.ntmps17
  go_wp2
  go_ret
  exact ⟨rfl, rfl⟩

theorem zz17_no (a : Option Addr) (n c : Nat) (w : World) (h : 1048576 < n) :
    Calls Try.prog 17 #[.slice a n c] w fun e w' => e = .returned (.bool false) ∧ w = w' := by
  have h' : (1048576 : Int) < (n : Int) := by omega
  go_enter Try.func17, Try.ntmps17
  go_wp2
  go_ret
  exact ⟨rfl, rfl⟩

theorem zread_short (a : Option Addr) (n c : Nat) (w : World) (hn : n = 0 ∨ 12 < n) :
    Calls Try.prog 14 #[.slice a n c] w fun e w' => e = .returned (.tuple #[.int .i64 (-1), .bool false]) ∧ w = w' := by
  have H : Hid (Calls Try.prog 33 #[.slice a n c] w fun e w' => e = .returned (.tuple #[.int .i64 (-1), .bool false]) ∧ w = w') := read_short a n c w hn
  clear hn
  go_enter Try.func14, Try.ntmps14
  go_wp2_with (go_at_call 33; refine H.out.mono ?_; rintro e w' ⟨rfl, rfl⟩)
  go_ret2
  exact ⟨rfl, rfl⟩

/-- What 'readLength' answers, as a relation. -/
def Ans (f : Nat → Int) (n : Nat) (N : Int) (B : Bool) : Prop := (DecOk f n ∧ N = val f n ∧ B = true) ∨ (¬ DecOk f n ∧ N = -1 ∧ B = false)

theorem ans_ex (f : Nat → Int) (n : Nat) : ∃ N B, Ans f n N B := by
  by_cases h : DecOk f n
  · exact ⟨_, _, .inl ⟨h, rfl, rfl⟩⟩
  · exact ⟨_, _, .inr ⟨h, rfl, rfl⟩⟩

theorem zread_ans (a : Option Addr) (n c : Nat) (f : Nat → Int) (w : World) (N : Int) (B : Bool) (hb : Bytes w a n f) (ha : Ans f n N B) :
    Calls Try.prog 14 #[.slice a n c] w fun e w' => e = .returned (.tuple #[.int .i64 N, .bool B]) ∧ w = w' := by
  rcases ha with ⟨h, rfl, rfl⟩ | ⟨h, rfl, rfl⟩
  · exact zread_good a n c f w hb h
  · exact zread_bad a n c f w hb h

/-- A zero ahead. -/
def lead (f : Nat → Int) : Nat → Int := fun i => if 1 ≤ i then f (i - 1) else 48

theorem lead_eq (f : Nat → Int) (n i : Nat) (hi : i < n + 1) : (if 1 ≤ i ∧ i < 1 + n then f (i - 1) else if i = 0 then 48 else 0) = lead f i := by
  unfold lead
  by_cases c : 1 ≤ i
  · rw [if_pos (by omega), if_pos c]
  · rw [if_neg (by omega), if_neg c, if_pos (by omega)]

theorem lead_ans {f : Nat → Int} {n : Nat} {N : Int} {B : Bool} (h1 : 1 ≤ n) (h2 : n ≤ 11) (h : Ans f n N B) : Ans (lead f) (n + 1) N B := by
  have hd : DecOk f n ↔ DecOk (lead f) (n + 1) := by
    constructor
    · rintro ⟨_, _, h⟩
      refine ⟨by omega, by omega, fun i hi => ?_⟩
      unfold lead
      by_cases c : 1 ≤ i
      · rw [if_pos c]; exact h _ (by omega)
      · rw [if_neg c]; decide
    · rintro ⟨_, _, h⟩
      refine ⟨by omega, by omega, fun i hi => ?_⟩
      have := h (i + 1) (by omega)
      unfold lead at this
      simpa using this
  have hv : val (lead f) (n + 1) = val f n := by
    have := val_zeros (f := f) (g := lead f) 1 (fun i hi => by unfold lead; rw [if_neg (by omega)]) (n := n) (fun i hi => by unfold lead; rw [if_pos (by omega)]; congr 1; omega)
    rw [Nat.add_comm] at this
    exact this
  rcases h with ⟨h, rfl, rfl⟩ | ⟨h, rfl, rfl⟩
  · exact .inl ⟨hd.1 h, hv.symm, rfl⟩
  · exact .inr ⟨fun k => h (hd.2 k), rfl, rfl⟩

theorem lead_big (a : Option Addr) (n c : Nat) (w : World) (h : 1048576 < n) :
    Calls Try.prog 5 #[.slice a n c] w fun e w' => e = .returned (.bool true) ∧ Below w.heap.size w w' := by
  go_enter Try.func5, Try.ntmps5
  go_wp2_with fail
  refine (zz17_no _ _ _ _ h).mono ?_
  rintro e w' ⟨rfl, rfl⟩
  go_wp2_with fail
  go_ret
  exact ⟨rfl, Below.refl _ _⟩

set_option maxHeartbeats 400000 in
theorem lead_main (x : Addr) (n c : Nat) (f : Nat → Int) (w : World) (hn : n ≤ 1048576) (h1 : 1 ≤ n) (hb : Bytes w (some x) n f) :
    Calls Try.prog 5 #[.slice (some x) n c] w fun e w' => e = .returned (.bool true) ∧ Below w.heap.size w w' := by
  have HB : Hid (Bytes w (some x) n f) := hb
  clear hb
  have hn' : ¬ (1048576 : Int) < (n : Int) := by omega
  go_enter Try.func5, Try.ntmps5
  go_wp2_with fail
  refine (zz17_yes _ _ _ _ hn).mono ?_
  rintro e w' ⟨rfl, rfl⟩
  go_wp2_with fail
  refine (clone_some x n c f w hn HB.out).mono ?_
  rintro e w1 ⟨rfl, r1, b1, s1⟩
  obtain ⟨w2, hmk, r2, b2, s2⟩ := make_row (n + 1) (by omega) w1
  have en : ((n + 1 : Nat) : Int) = (n : Int) + 1 := by omega
  rw [en] at hmk
  have hc2 := r2.cell 0 (by omega)
  have hf2 := r2.frozen 0
  have r3 := r2.stored 0 48
  obtain ⟨w4, hcp, r4, o4, b4, s4⟩ := copy_row _ w1.heap.size (n + 1) _ r3 (some ⟨w1.heap.size, 1, none⟩) (some ⟨w.heap.size, 0, none⟩) n n n n 1 n f (((r1.kept b2 r1.lt).aside _ _ (Nat.ne_of_lt r1.lt)).bytes) (by omega) (fun _ => rfl) (by omega)
  have HR1 : Hid (Row w4 w.heap.size n f) := ((r1.kept b2 r1.lt).aside ⟨w1.heap.size, 0, none⟩ _ (Nat.ne_of_lt r1.lt)).kept b4 r1.lt
  have HR4 : Hid (Row w4 w1.heap.size (n + 1) (lead f)) := r4.congr (fun i hi => lead_eq f n i hi)
  have HB4 : Hid (Below w.heap.size w w4) := ((b1.trans (b2.mono b1.size)).setCell (p := ⟨w1.heap.size, 0, none⟩) b1.size _).trans (b4.mono b1.size)
  clear r1 b1 s1 r2 b2 s2 r3 r4 o4 b4 s4 en
  by_cases h12 : n ≤ 11
  · obtain ⟨N, B, ha⟩ := ans_ex f n
    have HA : Hid (Ans f n N B) := ha
    clear ha
    go_wp2_with fail
    refine (zread_ans _ _ _ f _ N B HR1.out.bytes HA.out).mono ?_
    rintro e w' ⟨rfl, rfl⟩
    go_wp2_with fail
    refine (zread_ans _ _ _ (lead f) _ N B HR4.out.bytes (lead_ans h1 h12 HA.out)).mono ?_
    rintro e w' ⟨rfl, rfl⟩
    go_wp2_with fail
    go_ret
    exact ⟨rfl, HB4.out⟩
  · obtain ⟨N, B, ha⟩ := ans_ex f n
    have HA : Hid (Ans f n N B) := ha
    clear ha
    go_wp2_with fail
    refine (zread_ans _ _ _ f _ N B HR1.out.bytes HA.out).mono ?_
    rintro e w' ⟨rfl, rfl⟩
    go_wp2_with fail
    refine (zread_short _ _ _ _ (.inr (by omega))).mono ?_
    rintro e w' ⟨rfl, rfl⟩
    go_wp2_with fail
    go_ret
    exact ⟨rfl, HB4.out⟩

set_option maxHeartbeats 400000 in
theorem lead_nil (w : World) :
    Calls Try.prog 5 #[.slice none 0 0] w fun e w' => e = .returned (.bool true) ∧ Below w.heap.size w w' := by
  obtain ⟨w2, hmk0, r2, b2, s2⟩ := make_row 1 (by omega) w
  have hmk : (Instr.makeSlice 22 (.int .i64 1) (.int .i64 1)).run Try.prog w = .ok (.slice (some ⟨w.heap.size, 0, none⟩) 1 1) w2 := hmk0
  have hc2 := r2.cell 0 (by omega)
  have hf2 := r2.frozen 0
  have HR : Hid (Row (w2.setCell ⟨w.heap.size, 0, none⟩ (.int .u8 48)) w.heap.size 1 (fun j => if j = 0 then 48 else 0)) := r2.stored 0 48
  have HB : Hid (Below w.heap.size w (w2.setCell ⟨w.heap.size, 0, none⟩ (.int .u8 48))) := b2.setCell (Nat.le_refl _) _
  have hcp := fun (wx : World) (ty : TypeId) (d : Option Addr) => run_copy_none (P := Try.prog) wx 22 22 ty 5 d none 0 0 0 0 Try.underlying22 size5 rfl
  clear hmk0 r2 b2 s2
  go_enter Try.func5, Try.ntmps5
  go_wp2_with fail
  refine (zz17_yes _ _ _ _ (by decide)).mono ?_
  rintro e w' ⟨rfl, rfl⟩
  go_wp2_with fail
  refine (clone_nil w).mono ?_
  rintro e w1 ⟨rfl, rfl⟩
  go_wp2_with fail
  refine (zread_short _ _ _ _ (.inl rfl)).mono ?_
  rintro e w' ⟨rfl, rfl⟩
  go_wp2_with fail
  refine (zread_num _ _ _ _ _ 0 HR.out.bytes ⟨by decide, by decide, fun i hi => by simp [show i = 0 by omega]⟩ rfl).mono ?_
  rintro e w' ⟨rfl, rfl⟩
  go_wp2_with fail
  go_ret
  exact ⟨rfl, HB.out⟩

set_option maxHeartbeats 400000 in
theorem lead_empty (x : Addr) (c : Nat) (w : World) :
    Calls Try.prog 5 #[.slice (some x) 0 c] w fun e w' => e = .returned (.bool true) ∧ Below w.heap.size w w' := by
  go_enter Try.func5, Try.ntmps5
  go_wp2_with fail
  refine (zz17_yes _ _ _ _ (by decide)).mono ?_
  rintro e w' ⟨rfl, rfl⟩
  go_wp2_with fail
  refine (clone_some x 0 c (fun _ => 0) w (by decide) (.inl rfl)).mono ?_
  rintro e w1 ⟨rfl, r1, b1, s1⟩
  obtain ⟨w2, hmk0, r2, b2, s2⟩ := make_row 1 (by omega) w1
  have hmk : (Instr.makeSlice 22 (.int .i64 1) (.int .i64 1)).run Try.prog w1 = .ok (.slice (some ⟨w1.heap.size, 0, none⟩) 1 1) w2 := hmk0
  have hc2 := r2.cell 0 (by omega)
  have hf2 := r2.frozen 0
  have HR : Hid (Row (w2.setCell ⟨w1.heap.size, 0, none⟩ (.int .u8 48)) w1.heap.size 1 (fun j => if j = 0 then 48 else 0)) := r2.stored 0 48
  have HB : Hid (Below w.heap.size w (w2.setCell ⟨w1.heap.size, 0, none⟩ (.int .u8 48))) := (b1.trans (b2.mono b1.size)).setCell (p := ⟨w1.heap.size, 0, none⟩) b1.size _
  have hcp := fun (wx : World) (ty : TypeId) (d : Option Addr) => run_copy_none (P := Try.prog) wx 22 22 ty 5 d (some ⟨w.heap.size, 0, none⟩) 0 0 0 0 Try.underlying22 size5 rfl
  clear hmk0 r1 b1 s1 r2 b2 s2
  go_wp2_with fail
  refine (zread_short _ _ _ _ (.inl rfl)).mono ?_
  rintro e w' ⟨rfl, rfl⟩
  go_wp2_with fail
  refine (zread_num _ _ _ _ _ 0 HR.out.bytes ⟨by decide, by decide, fun i hi => by simp [show i = 0 by omega]⟩ rfl).mono ?_
  rintro e w' ⟨rfl, rfl⟩
  go_wp2_with fail
  go_ret
  exact ⟨rfl, HB.out⟩

end Go.Proofs.Qxb6601933a
