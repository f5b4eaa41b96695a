/-
  THE WALKS OF 'cloneMembersB1', 'toShimMembersB1'.
-/
import Derived.Test.Qxb6603188aMem
import Derived.BigRegion
namespace Go.Proofs.Qxb6603188a
open Go.RowKit

def Typed (n : Nat) (v : Nat → Value) : Prop := ∀ k, k < n → ∃ s i j, v (k * 3) = .string s ∧ v (k * 3 + 1) = .int .i64 i ∧ v (k * 3 + 2) = .int .i64 j
/-- Block g is a row of n members of the call's own. -/
def MRow (t : TypeId) (w : World) (g n : Nat) : Prop := ∃ v, RowV t w g (n * 3) v ∧ Typed n v

theorem MRow.cells {t : TypeId} {w : World} {g n : Nat} (h : MRow t w g n) : MCells w (some ⟨g, 0, none⟩) n := by
  obtain ⟨v, hr, ht⟩ := h
  refine .inr ⟨g, 0, rfl, fun k hk => ?_⟩
  obtain ⟨s, i, j, e1, e2, e3⟩ := ht k hk
  refine ⟨s, i, j, ?_, ?_, ?_⟩
  · rw [← e1, Nat.zero_add]; exact hr.cell _ (by omega)
  · rw [← e2, Nat.zero_add]; exact hr.cell _ (by omega)
  · rw [← e3, Nat.zero_add]; exact hr.cell _ (by omega)

theorem MRow.lt {t : TypeId} {w : World} {g n : Nat} (h : MRow t w g n) : g < w.heap.size := by
  obtain ⟨v, hr, _⟩ := h
  exact hr.lt

theorem MRow.kept {t : TypeId} {w w' : World} {B g n : Nat} (h : MRow t w g n) (hb : Below B w w') (hg : g < B) : MRow t w' g n := by
  obtain ⟨v, hr, ht⟩ := h
  exact ⟨v, hr.kept hb hg, ht⟩

theorem MCells.kept {w w' : World} {a : Option Addr} {n : Nat} (h : MCells w a n) (hb : Below w.heap.size w w') : MCells w' a n := by
  rcases h with h | ⟨b, off, ha, hc⟩
  · exact .inl h
  · refine .inr ⟨b, off, ha, fun k hk => ?_⟩
    obtain ⟨s, i, j, e1, e2, e3⟩ := hc k hk
    have hlt : b < w.heap.size := World.block_lt_of_cell? _ _ e1
    exact ⟨s, i, j, (hb.cell (p := ⟨b, off + k * 3, none⟩) hlt).trans e1, (hb.cell (p := ⟨b, off + k * 3 + 1, none⟩) hlt).trans e2, (hb.cell (p := ⟨b, off + k * 3 + 2, none⟩) hlt).trans e3⟩

/-- A row of members behind three stores into one member. -/
theorem MRow.put {t : TypeId} {w : World} {g n : Nat} (h : MRow t w g n) (k : Nat) (s : ByteArray) (i j : Int) :
    MRow t (((w.setCell ⟨g, k * 3, none⟩ (.string s)).setCell ⟨g, k * 3 + 1, none⟩ (.int .i64 i)).setCell ⟨g, k * 3 + 2, none⟩ (.int .i64 j)) g n := by
  obtain ⟨v, hr, ht⟩ := h
  refine ⟨_, ((hr.stored (k * 3) _).stored (k * 3 + 1) _).stored (k * 3 + 2) _, fun m hm => ?_⟩
  by_cases e : m = k
  · subst e
    refine ⟨s, i, j, ?_, ?_, ?_⟩
    · rw [if_neg (by omega), if_neg (by omega), if_pos rfl]
    · rw [if_neg (by omega), if_pos rfl]
    · rw [if_pos rfl]
  · obtain ⟨s', i', j', e1, e2, e3⟩ := ht m hm
    refine ⟨s', i', j', ?_, ?_, ?_⟩
    · rw [if_neg (by omega), if_neg (by omega), if_neg (by omega)]; exact e1
    · rw [if_neg (by omega), if_neg (by omega), if_neg (by omega)]; exact e2
    · rw [if_neg (by omega), if_neg (by omega), if_neg (by omega)]; exact e3

def zeroMem : Value := .agg #[.string ⟨#[]⟩, .int .i64 0, .int .i64 0]
theorem info42 : (Try.prog.info? 42).map (fun i => (i.zero, i.size, i.bytes)) = some (some zeroMem, 3, 32) := by kernel_rfl
theorem info44 : (Try.prog.info? 44).map (fun i => (i.zero, i.size, i.bytes)) = some (some zeroMem, 3, 32) := by kernel_rfl
theorem info46 : (Try.prog.info? 46).map (fun i => (i.zero, i.size, i.bytes)) = some (some zeroMem, 3, 32) := by kernel_rfl

/-- 'make([]T, n)', T a struct of a string and two ints. -/
theorem make_mem (T t : TypeId) (hT : Try.prog.underlying T = some (.slice t)) (hinfo : (Try.prog.info? t).map (fun i => (i.zero, i.size, i.bytes)) = some (some zeroMem, 3, 32)) (n : Nat) (hn : n ≤ 1048576) (w : World) :
    ∃ w', (Instr.makeSlice T (.int .i64 n) (.int .i64 n)).run Try.prog w = .ok (.slice (some ⟨w.heap.size, 0, none⟩) n n) w' ∧ MRow t w' w.heap.size n ∧ Below w.heap.size w w' ∧ w'.heap.size = w.heap.size + 1 := by
  obtain ⟨i, hi, hz0, hz1, hz2⟩ := info_parts hinfo
  have hr := run_make (P := Try.prog) w T t i _ hT hi hz0 .i64 .i64 (n : Int) (n : Int) (by omega) (Int.le_refl _) (by rw [hz2]; omega) (by omega)
  simp only [Int.toNat_natCast, hz1] at hr
  refine ⟨_, hr, ?_, (Below.refl _ _).alloc (Nat.le_refl _) _, by simp⟩
  refine ⟨fun k => #[Value.string ⟨#[]⟩, .int .i64 0, .int .i64 0][k % 3]!, ?_, fun k hk => ?_⟩
  · unfold RowV
    rw [heap_alloc_new]
    congr 2
    apply Array.ext_getElem?
    intro k
    simp only [List.getElem?_toArray, cellsOf_get]
    by_cases h : k < n * 3
    · simp [madeCells, h, zeroMem, Value.cells]
    · simp [madeCells, h]
  · refine ⟨⟨#[]⟩, 0, 0, ?_, ?_, ?_⟩
    · show #[Value.string ⟨#[]⟩, .int .i64 0, .int .i64 0][(k * 3) % 3]! = _
      rw [show k * 3 % 3 = 0 by omega]; rfl
    · show #[Value.string ⟨#[]⟩, .int .i64 0, .int .i64 0][(k * 3 + 1) % 3]! = _
      rw [show (k * 3 + 1) % 3 = 1 by omega]; rfl
    · show #[Value.string ⟨#[]⟩, .int .i64 0, .int .i64 0][(k * 3 + 2) % 3]! = _
      rw [show (k * 3 + 2) % 3 = 2 by omega]; rfl

theorem mclone_nil (w : World) :
    Calls Try.prog 16 #[.slice none 0 0] w fun e w' => e = .returned (.slice none 0 0) ∧ w = w' := by
  have hq := fun wx => Lib.run_eql_slice_nil (P := Try.prog) wx 29 42 none 0 0 0 0 Try.underlying29
  go_enter Try.func16, Try.ntmps16
  go_wp2
  go_ret
  exact ⟨rfl, rfl⟩

set_option maxHeartbeats 400000 in
theorem mclone_some (x : Addr) (n c : Nat) (w : World) (hn : n ≤ 1048576) (hm : MCells w (some x) n) :
    Calls Try.prog 16 #[.slice (some x) n c] w fun e w' => e = .returned (.slice (some ⟨w.heap.size, 0, none⟩) n n) ∧ MRow 42 w' w.heap.size n ∧ Below w.heap.size w w' := by
  have hq := fun wx => Lib.run_eql_slice_nil (P := Try.prog) wx 29 42 (some x) n c 0 0 Try.underlying29
  obtain ⟨w1, hmk, r1, b1, s1⟩ := make_mem 29 42 Try.underlying29 info42 n hn w
  have HR : Hid (MRow 42 w1 w.heap.size n) := r1
  have HB : Hid (Below w.heap.size w w1) := b1
  have HX : Hid (MCells w (some x) n) := hm
  clear r1 b1 s1 hm
  go_enter Try.func16, Try.ntmps16
  go_wp2
  go_loopw [4] (fun iv wr => ∃ k : Nat, k ≤ n ∧ iv = .int .i64 k ∧ MRow 42 wr w.heap.size n ∧ Below w.heap.size w wr) (fun iv _ => n - (intOf iv).toNat)
  case atStart => exact ⟨0, Nat.zero_le _, rfl, HR.out, HB.out⟩
  case round =>
    obtain ⟨k, hk, rfl, hr, hbel⟩ := hrel
    by_cases hlt : k < n
    · rcases HX.out with h0 | ⟨b, off, hx, hcs⟩
      · omega
      obtain rfl : x = ⟨b, off, none⟩ := by simpa using hx
      obtain ⟨s, i, j, e1, e2, e3⟩ := hcs k hlt
      have hlt : b < w.heap.size := World.block_lt_of_cell? _ _ e1
      have d1 := (hbel.cell (p := ⟨b, off + k * 3, none⟩) hlt).trans e1
      have d2 := (hbel.cell (p := ⟨b, off + k * 3 + 1, none⟩) hlt).trans e2
      have d3 := (hbel.cell (p := ⟨b, off + k * 3 + 2, none⟩) hlt).trans e3
      obtain ⟨v, hrv, hty⟩ := hr
      have f1 := hrv.cell (k * 3) (by omega)
      have f2 := hrv.cell (k * 3 + 1) (by omega)
      have f3 := hrv.cell (k * 3 + 2) (by omega)
      have g1 := hrv.frozen (k * 3)
      have g2 := hrv.frozen (k * 3 + 1)
      have g3 := hrv.frozen (k * 3 + 2)
      have HR2 : Hid (MRow 42 wr w.heap.size n) := ⟨v, hrv, hty⟩
      have HB2 : Hid (Below w.heap.size w wr) := hbel
      clear hrv hty hbel hcs e1 e2 e3 hx
      go_wp2
      go_roundw
      case rel => exact ⟨k + 1, by omega, by go_num, HR2.out.put k s i j, ((HB2.out.setCell (Nat.le_refl _) _).setCell (Nat.le_refl _) _).setCell (Nat.le_refl _) _⟩
      case measure => simp [intOf]; omega
    · have HR2 : Hid (MRow 42 wr w.heap.size n) := hr
      have HB2 : Hid (Below w.heap.size w wr) := hbel
      clear hr hbel HX
      go_wp2
      go_ret
      exact ⟨rfl, HR2.out, HB2.out⟩

theorem shim_nil (w : World) :
    Calls Try.prog 18 #[.slice none 0 0] w fun e w' => e = .returned (.slice none 0 0) ∧ w = w' := by
  have hq := fun wx => Lib.run_eql_slice_nil (P := Try.prog) wx 29 42 none 0 0 0 0 Try.underlying29
  go_enter Try.func18, Try.ntmps18
  go_wp2
  go_ret
  exact ⟨rfl, rfl⟩

set_option maxHeartbeats 1000000 in
theorem shim_some (x : Addr) (n c : Nat) (w : World) (hn : n ≤ 1048576) (hm : MCells w (some x) n) :
    Calls Try.prog 18 #[.slice (some x) n c] w fun e w' => e = .returned (.slice (some ⟨w.heap.size, 0, none⟩) n n) ∧ MRow 44 w' w.heap.size n ∧ Below w.heap.size w w' := by
  have hq := fun wx => Lib.run_eql_slice_nil (P := Try.prog) wx 29 42 (some x) n c 0 0 Try.underlying29
  obtain ⟨w1, hmk, r1, b1, s1⟩ := make_mem 35 44 Try.underlying35 info44 n hn w
  have HR : Hid (MRow 44 w1 w.heap.size n) := r1
  have HB : Hid (Below w.heap.size w w1) := b1
  have HX : Hid (MCells w (some x) n) := hm
  clear r1 b1 s1 hm
  go_enter Try.func18, Try.ntmps18
  go_wp2
  go_loopw [4] (fun iv wr => ∃ k : Nat, k ≤ n ∧ iv = .int .i64 k ∧ MRow 44 wr w.heap.size n ∧ Below w.heap.size w wr) (fun iv _ => n - (intOf iv).toNat)
  case atStart => exact ⟨0, Nat.zero_le _, rfl, HR.out, HB.out⟩
  case round =>
    obtain ⟨k, hk, rfl, hr, hbel⟩ := hrel
    by_cases hlt : k < n
    · rcases HX.out with h0 | ⟨b, off, hx, hcs⟩
      · omega
      obtain rfl : x = ⟨b, off, none⟩ := by simpa using hx
      obtain ⟨s, i, j, e1, e2, e3⟩ := hcs k hlt
      have hlb : b < w.heap.size := World.block_lt_of_cell? _ _ e1
      have d1 := (hbel.cell (p := ⟨b, off + k * 3, none⟩) hlb).trans e1
      have d2 := (hbel.cell (p := ⟨b, off + k * 3 + 1, none⟩) hlb).trans e2
      have d3 := (hbel.cell (p := ⟨b, off + k * 3 + 2, none⟩) hlb).trans e3
      obtain ⟨v, hrv, hty⟩ := hr
      have f1 := hrv.cell (k * 3) (by omega)
      have f2 := hrv.cell (k * 3 + 1) (by omega)
      have f3 := hrv.cell (k * 3 + 2) (by omega)
      have g1 := hrv.frozen (k * 3)
      have g2 := hrv.frozen (k * 3 + 1)
      have g3 := hrv.frozen (k * 3 + 2)
      have HR2 : Hid (MRow 44 wr w.heap.size n) := ⟨v, hrv, hty⟩
      have HB2 : Hid (Below w.heap.size w wr) := hbel
      have hlt' : (k : Int) < (n : Int) := by omega
      clear hrv hty hbel hcs e1 e2 e3 hx
      go_wp2
      go_region
      go_wp2
      go_roundw
      case rel => exact ⟨k + 1, by omega, by go_num, HR2.out.put k s i j, (((HB2.out.setCell (Nat.le_refl _) _).setCell (Nat.le_refl _) _).setCell (Nat.le_refl _) _).drew⟩
      case measure => simp [intOf]; omega
    · have HR2 : Hid (MRow 44 wr w.heap.size n) := hr
      have HB2 : Hid (Below w.heap.size w wr) := hbel
      clear hr hbel HX
      go_wp2
      go_ret
      exact ⟨rfl, HR2.out, HB2.out⟩
end Go.Proofs.Qxb6603188a
