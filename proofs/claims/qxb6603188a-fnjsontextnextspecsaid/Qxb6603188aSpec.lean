/-
  THE WALK OF 'FnJSONTextNextSpec'.
-/
import Derived.Test.Qxb6603188aNext
namespace Go.Proofs.Qxb6603188a
open Go.RowKit

theorem isws_yes (c : Int) (w : World) (h : Ws c) : Calls Try.prog 10 #[.int .u8 c] w fun e w' => e = .returned (.bool true) ∧ w = w' := by
  have hw := ws_ways h
  clear h
  rcases hw with e1 | ⟨e1, e2⟩ | ⟨e1, e2, e3⟩ | ⟨e1, e2, e3, e4⟩
  all_goals
    go_enter Try.func10, Try.ntmps10
    go_wp2
    go_ret
    exact ⟨rfl, rfl⟩

theorem isws_no (c : Int) (w : World) (h : ¬ Ws c) : Calls Try.prog 10 #[.int .u8 c] w fun e w' => e = .returned (.bool false) ∧ w = w' := by
  obtain ⟨e1, e2, e3, e4⟩ := nows_way h
  clear h
  go_enter Try.func10, Try.ntmps10
  go_wp2
  go_ret
  exact ⟨rfl, rfl⟩

theorem zz7_yes (a : Option Addr) (n c : Nat) (p : Int) (w : World) (h : n ≤ 1048576) :
    Calls Try.prog 7 #[.slice a n c, .int .i64 p] w fun e w' => e = .returned (.bool true) ∧ w = w' := by
  have h' : ¬ (1048576 : Int) < (n : Int) := by omega
  go_enter Try.func7, Try.ntmps7
  go_wp2
  go_ret
  exact ⟨rfl, rfl⟩

theorem zz7_no (a : Option Addr) (n c : Nat) (p : Int) (w : World) (h : 1048576 < n) :
    Calls Try.prog 7 #[.slice a n c, .int .i64 p] w fun e w' => e = .returned (.bool false) ∧ w = w' := by
  have h' : (1048576 : Int) < (n : Int) := by omega
  go_enter Try.func7, Try.ntmps7
  go_wp2
  go_ret
  exact ⟨rfl, rfl⟩

theorem spec_big (a : Option Addr) (n c : Nat) (p : Int) (w : World) (h : 1048576 < n) :
    Calls Try.prog 3 #[.slice a n c, .int .i64 p] w fun e w' => e = .returned (.bool true) ∧ Below w.heap.size w w' := by
  go_enter Try.func3, Try.ntmps3
  go_wp2_with fail
  refine (zz7_no _ _ _ _ _ h).mono ?_
  rintro e w' ⟨rfl, rfl⟩
  go_wp2_with fail
  go_ret
  exact ⟨rfl, Below.refl _ _⟩

theorem spec_neg (a : Option Addr) (n c : Nat) (p : Int) (w : World) (h : n ≤ 1048576) (hp : p < 0) :
    Calls Try.prog 3 #[.slice a n c, .int .i64 p] w fun e w' => e = .returned (.bool true) ∧ Below w.heap.size w w' := by
  have h' : ¬ (1048576 : Int) < (n : Int) := by omega
  go_enter Try.func3, Try.ntmps3
  go_wp2_with fail
  refine (zz7_yes _ _ _ _ _ h).mono ?_
  rintro e w' ⟨rfl, rfl⟩
  go_wp2_with fail
  go_ret
  exact ⟨rfl, Below.refl _ _⟩

set_option maxHeartbeats 400000 in
theorem spec_nil (pos : Nat) (w : World) (hp : pos ≤ 9223372036854775807) :
    Calls Try.prog 3 #[.slice none 0 0, .int .i64 pos] w fun e w' => e = .returned (.bool true) ∧ Below w.heap.size w w' := by
  have h0 : ¬ (pos : Int) < 0 := by omega
  go_enter Try.func3, Try.ntmps3
  go_wp2_with fail
  refine (zz7_yes _ _ _ _ _ (by decide)).mono ?_
  rintro e w' ⟨rfl, rfl⟩
  go_wp2_with fail
  refine (clone_nil w).mono ?_
  rintro e w' ⟨rfl, rfl⟩
  go_wp2_with fail
  refine (znext_any none 0 0 (fun _ => 0) pos w (by decide) hp (.inl rfl)).mono ?_
  rintro e w1 ⟨p, hL, rfl, hb⟩
  have e1 : byteAt (fun _ => 0) 0 p = 0 := by simp [byteAt]
  obtain rfl : p = pos := by
    have a := hL.1
    have b := hL.2.1
    omega
  have HB : Hid (Below w.heap.size w w1) := hb
  rw [e1]
  clear hL hb e1
  go_wp2_with fail
  go_ret
  exact ⟨rfl, HB.out⟩

def Between (pos p : Nat) (i : Value) : Prop := ∃ k : Nat, pos ≤ k ∧ k ≤ p ∧ i = .int .i64 k

set_option maxHeartbeats 1000000 in
theorem spec_some (x : Addr) (n c pos : Nat) (f : Nat → Int) (w : World) (hn : n ≤ 1048576) (hp : pos ≤ 9223372036854775807) (hb : Bytes w (some x) n f) :
    Calls Try.prog 3 #[.slice (some x) n c, .int .i64 pos] w fun e w' => e = .returned (.bool true) ∧ Below w.heap.size w w' := by
  have HX : Hid (Bytes w (some x) n f) := hb
  clear hb
  have h0 : ¬ (pos : Int) < 0 := by omega
  have hn' : ¬ (1048576 : Int) < (n : Int) := by omega
  go_enter Try.func3, Try.ntmps3
  go_wp2_with fail
  refine (zz7_yes _ _ _ _ _ hn).mono ?_
  rintro e w' ⟨rfl, rfl⟩
  go_wp2_with fail
  refine (clone_some x n c f w hn HX.out).mono ?_
  rintro e w1 ⟨rfl, r1, b1⟩
  have HR : Hid (Row w1 w.heap.size n f) := r1
  have HB : Hid (Below w.heap.size w w1) := b1
  clear r1 b1
  go_wp2_with fail
  refine (znext_any _ n n f pos w1 (by omega) hp HR.out.bytes).mono ?_
  rintro e w2 ⟨p, hL, rfl, hb⟩
  obtain ⟨C, hC⟩ : ∃ C, C = byteAt f n p := ⟨_, rfl⟩
  rw [← hC]
  have hR2 : Row w2 w.heap.size n f := HR.out.kept hb HR.out.lt
  have HB2 : Hid (Below w.heap.size w w2) := HB.out.trans (hb.mono HB.out.size)
  have HR2 : Hid (Row w2 w.heap.size n f) := hR2
  have l1 := hL.1
  have l2 := hL.2.1
  have HL : Hid (Land f n pos p) := hL
  have HC : Hid (C = byteAt f n p) := hC
  clear hL hb hR2 hC HR HB HX
  by_cases hpn : n ≤ pos
  · have e0 : p = pos := by omega
    subst e0
    have hge : (n : Int) ≤ (p : Int) := by omega
    have ec : C = 0 := by rw [HC.out]; simp [byteAt]; omega
    subst ec
    clear l1 l2 HC HL
    go_wp2_with fail
    go_ret
    exact ⟨rfl, HB2.out⟩
  · have hlt0 : ¬ (n : Int) ≤ (pos : Int) := by omega
    have t1 : ¬ (p : Int) < (pos : Int) := by omega
    have t2 : ¬ (n : Int) < (p : Int) := by omega
    have d1 : decide (p < pos) = false := by simp; omega
    have d2 : decide (n < p) = false := by simp; omega
    go_wp2_with fail
    go_loopw [7] (fun i wr => Between pos p i ∧ w2 = wr) (fun i _ => p - (intOf i).toNat)
    case atStart => exact ⟨⟨pos, Nat.le_refl _, l1, rfl⟩, rfl⟩
    case round =>
      obtain ⟨⟨k, k1, k2, rfl⟩, rfl⟩ := hrel
      by_cases hk : k < p
      · have hcell := HR2.out.cell k (by omega)
        have HW : Hid (Ws (f k)) := HL.out.2.2.1 k k1 hk
        have hkn : k < n := by omega
        go_wp2_with (go_at_call 10; refine (isws_yes _ _ HW.out).mono ?_; rintro e w' ⟨rfl, rfl⟩)
        go_roundw
        case rel => exact ⟨⟨k + 1, by omega, by omega, by go_num⟩, trivial⟩
        case measure => simp [intOf]; omega
      · obtain rfl : k = p := by omega
        by_cases hend : k = n
        · subst hend
          have ec : C = 0 := by rw [HC.out]; simp [byteAt]
          subst ec
          clear HC HL
          go_wp2_with fail
          go_ret
          exact ⟨rfl, HB2.out⟩
        · have hkn : k < n := by omega
          have hcell := HR2.out.cell k hkn
          have ec : C = f k := by rw [HC.out]; simp [byteAt, hkn]
          subst ec
          have HW : Hid (¬ Ws (f k)) := HL.out.2.2.2 hkn
          have hne : ((k : Int) == (n : Int)) = false := by simp; omega
          clear HC HL hend
          go_wp2_with (go_at_call 10; refine (isws_no _ _ HW.out).mono ?_; rintro e w' ⟨rfl, rfl⟩)
          go_ret
          exact ⟨rfl, HB2.out⟩
end Go.Proofs.Qxb6603188a
