/-
  THE WALKS OF 'newMember' AND 'ZZNewMember'; the text that they make.
-/
import Derived.Test.Qxb6603188aShim
namespace Go.Proofs.Qxb6603188a
open Go.RowKit

/-- The byte at place i of a string, as a number. -/
def lb (s : ByteArray) (i : Nat) : Int := ((s.data.toList.getD i 0).toNat : Int)
theorem len_size (s : ByteArray) : s.data.toList.length = s.size := by rw [Array.length_toList]; rfl
theorem lb_eq {s : ByteArray} {i : Nat} (h : i < s.size) : ((s[i]'h).toNat : Int) = lb s i := by
  have h' : i < s.data.toList.length := by rw [len_size]; exact h
  have e : s.data.toList.getD i 0 = s[i]'h := by
    rw [List.getD_eq_getElem?_getD, List.getElem?_eq_getElem h', Option.getD_some, Array.getElem_toList]
    rfl
  unfold lb
  rw [e]
theorem lb_bd (s : ByteArray) (i : Nat) : 0 ≤ lb s i ∧ lb s i ≤ 255 := by
  have := (s.data.toList.getD i 0).toNat_lt
  unfold lb
  omega
theorem lb_append (a b : ByteArray) (i : Nat) : lb (a ++ b) i = if i < a.size then lb a i else lb b (i - a.size) := by
  unfold lb
  rw [ByteArray.data_append, Array.toList_append, List.getD_eq_getElem?_getD, List.getD_eq_getElem?_getD, List.getD_eq_getElem?_getD]
  by_cases h : i < a.size
  · rw [if_pos h, List.getElem?_append_left (by rw [len_size]; exact h)]
  · rw [if_neg h, List.getElem?_append_right (by rw [len_size]; omega), len_size]
theorem empty_yes {s : ByteArray} (h : s.size = 0) : s.toList.isEmpty = true := by
  rw [ByteArray.toList_eq, List.isEmpty_iff_length_eq_zero, len_size]; exact h
theorem empty_no {s : ByteArray} (h : ¬ s.size = 0) : s.toList.isEmpty = false := by
  rw [ByteArray.toList_eq, Bool.eq_false_iff]
  intro k
  rw [List.isEmpty_iff_length_eq_zero, len_size] at k
  exact h k

/-- newMember's text. -/
def body (nl ind ky : ByteArray) : ByteArray := nl ++ ind ++ ⟨#[34]⟩ ++ ky ++ ⟨#[34, 58]⟩
def txt (m : Nat) (nl ind ky vl : ByteArray) : ByteArray :=
  if m = 0 then (if nl.size = 0 then body nl ind ky ++ vl else body nl ind ky ++ ⟨#[32]⟩ ++ vl)
  else ⟨#[44]⟩ ++ (if nl.size = 0 then body nl ind ky ++ vl else body nl ind ky ++ ⟨#[32]⟩ ++ vl)

theorem ret_str {a b : ByteArray} (h : a = b) : Ending.returned (.string a) = .returned (.string b) := by rw [h]

set_option maxHeartbeats 1000000 in
theorem newMember_any (a : Option Addr) (m c : Nat) (le : Int) (nl ind un ky vl : ByteArray) (w : World) (hs : nl.size + ind.size + un.size + ky.size + vl.size ≤ 1048576) :
    Calls Try.prog 20 #[.agg #[.slice a m c, .int .i64 le, .string nl, .string ind, .string un], .string ky, .string vl] w fun e w' => e = .returned (.string (txt m nl ind ky vl)) ∧ Below w.heap.size w w' := by
  by_cases h1 : nl.size = 0
  · have h3 := empty_yes h1
    by_cases h2 : m = 0
    · subst h2
      have ht : txt 0 nl ind ky vl = body nl ind ky ++ vl := by unfold txt; rw [if_pos rfl, if_pos h1]
      have HT : Hid (txt 0 nl ind ky vl = body nl ind ky ++ vl) := ht
      clear ht h1
      go_enter Try.func20, Try.ntmps20
      go_wp2
      go_ret
      exact ⟨ret_str HT.out.symm, (Below.refl _ _).alloc (Nat.le_refl _) _⟩
    · have hp : (0 : Int) < (m : Int) := by omega
      have ht : txt m nl ind ky vl = ⟨#[44]⟩ ++ (body nl ind ky ++ vl) := by unfold txt; rw [if_neg h2, if_pos h1]
      have HT : Hid (txt m nl ind ky vl = ⟨#[44]⟩ ++ (body nl ind ky ++ vl)) := ht
      clear ht h1 h2
      go_enter Try.func20, Try.ntmps20
      go_wp2
      go_ret
      exact ⟨ret_str HT.out.symm, (Below.refl _ _).alloc (Nat.le_refl _) _⟩
  · have h3 := empty_no h1
    by_cases h2 : m = 0
    · subst h2
      have ht : txt 0 nl ind ky vl = body nl ind ky ++ ⟨#[32]⟩ ++ vl := by unfold txt; rw [if_pos rfl, if_neg h1]
      have HT : Hid (txt 0 nl ind ky vl = body nl ind ky ++ ⟨#[32]⟩ ++ vl) := ht
      clear ht h1
      go_enter Try.func20, Try.ntmps20
      go_wp2
      go_ret
      exact ⟨ret_str HT.out.symm, (Below.refl _ _).alloc (Nat.le_refl _) _⟩
    · have hp : (0 : Int) < (m : Int) := by omega
      have ht : txt m nl ind ky vl = ⟨#[44]⟩ ++ (body nl ind ky ++ ⟨#[32]⟩ ++ vl) := by unfold txt; rw [if_neg h2, if_neg h1]
      have HT : Hid (txt m nl ind ky vl = ⟨#[44]⟩ ++ (body nl ind ky ++ ⟨#[32]⟩ ++ vl)) := ht
      clear ht h1 h2
      go_enter Try.func20, Try.ntmps20
      go_wp2
      go_ret
      exact ⟨ret_str HT.out.symm, (Below.refl _ _).alloc (Nat.le_refl _) _⟩

set_option maxHeartbeats 1000000 in
theorem zznew_nil (le : Int) (nl ind un ky vl : ByteArray) (w : World) (hs : nl.size + ind.size + un.size + ky.size + vl.size ≤ 1048576) :
    Calls Try.prog 17 #[.slice none 0 0, .int .i64 le, .string nl, .string ind, .string un, .string ky, .string vl] w fun e w' => e = .returned (.string (txt 0 nl ind ky vl)) ∧ Below w.heap.size w w' := by
  have hq := fun wx => run_neq_slice_nil_any (P := Try.prog) wx 35 44 none 0 0 0 0 Try.underlying35
  go_enter Try.func17, Try.ntmps17
  go_wp2_with fail
  refine (newMember_any _ _ _ _ _ _ _ _ _ _ hs).mono ?_
  rintro e w1 ⟨rfl, hb⟩
  have HB : Hid (Below w.heap.size w w1) := ((Below.refl _ _).alloc (Nat.le_refl _) _).trans (hb.mono (by simp))
  clear hb
  go_wp2_with fail
  go_ret
  exact ⟨rfl, HB.out⟩

set_option maxHeartbeats 1600000 in
theorem zznew_some (x : Addr) (n c : Nat) (le : Int) (nl ind un ky vl : ByteArray) (w : World) (hn : n ≤ 1048576) (hm : MCells w (some x) n) (hs : nl.size + ind.size + un.size + ky.size + vl.size ≤ 1048576) :
    Calls Try.prog 17 #[.slice (some x) n c, .int .i64 le, .string nl, .string ind, .string un, .string ky, .string vl] w fun e w' => e = .returned (.string (txt n nl ind ky vl)) ∧ Below w.heap.size w w' := by
  have hq := fun wx => run_neq_slice_nil_any (P := Try.prog) wx 35 44 (some x) n c 0 0 Try.underlying35
  obtain ⟨w1, hmk, r1, b1, s1⟩ := make_mem 43 46 Try.underlying43 info46 n hn w
  have HR : Hid (MRow 46 w1 w.heap.size n) := r1
  have HB : Hid (Below w.heap.size w w1) := b1
  have HX : Hid (MCells w (some x) n) := hm
  clear r1 b1 s1 hm
  go_enter Try.func17, Try.ntmps17
  go_wp2_with fail
  go_loopw [16] (fun iv wr => ∃ k : Nat, k ≤ n ∧ iv = .int .i64 k ∧ MRow 46 wr w.heap.size n ∧ Below w.heap.size w wr) (fun iv _ => n - (intOf iv).toNat)
  case atStart => exact ⟨0, Nat.zero_le _, rfl, HR.out, HB.out⟩
  case round =>
    obtain ⟨k, hk, rfl, hr, hbel⟩ := hrel
    by_cases hlt : k < n
    · rcases HX.out with h0 | ⟨b, off, hx, hcs⟩
      · omega
      obtain rfl : x = ⟨b, off, none⟩ := by simpa using hx
      obtain ⟨s, i, j, e1, e2, e3⟩ := hcs k hlt
      have hlb : b < w.heap.size := World.block_lt_of_cell? _ _ e1
      have d1 := (hbel.cell (p := ⟨b, off + k * 3, none⟩) hlb).trans e1
      have d2 := (hbel.cell (p := ⟨b, off + k * 3 + 1, none⟩) hlb).trans e2
      have d3 := (hbel.cell (p := ⟨b, off + k * 3 + 2, none⟩) hlb).trans e3
      obtain ⟨v, hrv, hty⟩ := hr
      have f1 := hrv.cell (k * 3) (by omega)
      have f2 := hrv.cell (k * 3 + 1) (by omega)
      have f3 := hrv.cell (k * 3 + 2) (by omega)
      have g1 := hrv.frozen (k * 3)
      have g2 := hrv.frozen (k * 3 + 1)
      have g3 := hrv.frozen (k * 3 + 2)
      have HR2 : Hid (MRow 46 wr w.heap.size n) := ⟨v, hrv, hty⟩
      have HB2 : Hid (Below w.heap.size w wr) := hbel
      have hlt' : (k : Int) < (n : Int) := by omega
      clear hrv hty hbel hcs e1 e2 e3 hx
      go_wp2
      go_region
      go_wp2
      go_roundw
      case rel => exact ⟨k + 1, by omega, by go_num, HR2.out.put k s i j, (((HB2.out.setCell (Nat.le_refl _) _).setCell (Nat.le_refl _) _).setCell (Nat.le_refl _) _).drew⟩
      case measure => simp [intOf]; omega
    · have HB2 : Hid (Below w.heap.size w wr) := hbel
      have hz := hbel.size
      clear hr hbel HX HR HB
      go_wp2_with fail
      refine (newMember_any _ _ _ _ _ _ _ _ _ _ hs).mono ?_
      rintro e w2 ⟨rfl, hb⟩
      have HB3 : Hid (Below w.heap.size w w2) := (HB2.out.alloc hz _).trans (hb.mono (by simp; omega))
      clear hb
      go_wp2_with fail
      go_ret
      exact ⟨rfl, HB3.out⟩
end Go.Proofs.Qxb6603188a
