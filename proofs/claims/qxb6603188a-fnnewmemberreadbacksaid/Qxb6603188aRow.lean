/-
  ROWS OF BYTES THAT A CALL ITSELF MAKES: what 'make' and a store do to them.
-/
import Derived.Test.Qxb6603188aRows
import Derived.WalkKit
import Derived.ProofKit
import Derived.Handy
import Derived.OpenShut
import Derived.Laws.CopyOwn
import Derived.WalkSpells
import Derived.Outline
namespace Go.Proofs.Qxb6603188a
open Go.RowKit

theorem info5 : (Try.prog.info? 5).map (fun i => (i.zero, i.size, i.bytes)) = some (some (.int .u8 0), 1, 1) := by kernel_rfl

/-- The cells of a slice of bytes. -/
def Bytes (w : World) (a : Option Addr) (n : Nat) (f : Nat → Int) : Prop :=
  n = 0 ∨ ∃ b off, a = some ⟨b, off, none⟩ ∧ ∀ i, i < n → w.cell? ⟨b, off + i, none⟩ = some (.int .u8 (f i))

/-- n cells. -/
def cellsOf (n : Nat) (v : Nat → Value) : List Value := (List.range n).map v
theorem cellsOf_length (n : Nat) (v : Nat → Value) : (cellsOf n v).length = n := by simp [cellsOf]
theorem cellsOf_get (n : Nat) (v : Nat → Value) (i : Nat) : (cellsOf n v)[i]? = if i < n then some (v i) else none := by
  unfold cellsOf
  by_cases h : i < n <;> simp [h]

/-- Block g is a row of n cells of the call's own, of type t: the values 'v'. -/
def RowV (t : TypeId) (w : World) (g n : Nat) (v : Nat → Value) : Prop := w.heap[g]? = some (.cells (cellsOf n v).toArray t (0, 0))

theorem RowV.cell {t : TypeId} {w : World} {g n : Nat} {v : Nat → Value} (h : RowV t w g n v) : ∀ i, i < n → w.cell? ⟨g, i, none⟩ = some (v i) := by
  intro i hi
  unfold RowV at h
  simp [World.cell?, h, cellsOf_get, hi]

theorem RowV.frozen {t : TypeId} {w : World} {g n : Nat} {v : Nat → Value} (h : RowV t w g n v) : ∀ i, w.frozen? ⟨g, i, none⟩ = false := by
  intro i
  unfold RowV at h
  simp [World.frozen?, h]

theorem RowV.lt {t : TypeId} {w : World} {g n : Nat} {v : Nat → Value} (h : RowV t w g n v) : g < w.heap.size := by
  unfold RowV at h
  exact (Array.getElem?_eq_some_iff.1 h).1

theorem RowV.same {t : TypeId} {w w' : World} {g n : Nat} {v : Nat → Value} (h : RowV t w g n v) (hb : w'.heap[g]? = w.heap[g]?) : RowV t w' g n v := by
  unfold RowV at *
  rw [hb, h]

theorem RowV.kept {t : TypeId} {w w' : World} {B g n : Nat} {v : Nat → Value} (h : RowV t w g n v) (hb : Below B w w') (hg : g < B) : RowV t w' g n v :=
  h.same (hb.block g hg)

theorem RowV.congr {t : TypeId} {w : World} {g n : Nat} {v v' : Nat → Value} (h : RowV t w g n v) (he : ∀ i, i < n → v i = v' i) : RowV t w g n v' := by
  have e : cellsOf n v = cellsOf n v' := by
    apply List.ext_getElem?
    intro i
    rw [cellsOf_get, cellsOf_get]
    by_cases hi : i < n
    · simp [hi, he i hi]
    · simp [hi]
  unfold RowV at *
  rw [← e]
  exact h

/-- A store into a row. -/
theorem RowV.stored {t : TypeId} {w : World} {g n : Nat} {v : Nat → Value} (h : RowV t w g n v) (i : Nat) (u : Value) : RowV t (w.setCell ⟨g, i, none⟩ u) g n (fun j => if j = i then u else v j) := by
  unfold RowV at *
  rw [setCell_eq_setRow w g i _ _ _ _ h, setRow_heap w g _ _ _ _ h]
  congr 2
  apply Array.ext_getElem?
  intro j
  simp only [Array.getElem?_setIfInBounds, List.getElem?_toArray, List.size_toArray, cellsOf_length, cellsOf_get]
  by_cases hj : i = j
  · subst hj
    by_cases hi : i < n <;> simp [hi]
  · have : ¬ j = i := fun e => hj e.symm
    simp [hj, this]

/-- A store into another block. -/
theorem RowV.aside {t : TypeId} {w : World} {g n : Nat} {v : Nat → Value} (h : RowV t w g n v) (p : Addr) (u : Value) (hp : g ≠ p.block) : RowV t (w.setCell p u) g n v :=
  h.same (Below.heap_setCell _ _ _ _ hp)

theorem RowV.alloc {t : TypeId} {w : World} {g n : Nat} {v : Nat → Value} (h : RowV t w g n v) (o : Obj) : RowV t (w.alloc o) g n v :=
  h.same (Below.heap_alloc _ _ _ h.lt)

/-- A block that is laid written out. -/
theorem RowV.laid (t : TypeId) (w : World) (cs : List Value) (n : Nat) (v : Nat → Value) (h : cs = cellsOf n v) : RowV t (w.alloc (.cells cs.toArray t)) w.heap.size n v := by
  unfold RowV
  rw [heap_alloc_new, h]

/-- Block g is a row of n bytes of the call's own: the numbers 'f'. -/
def Row (w : World) (g n : Nat) (f : Nat → Int) : Prop := RowV 5 w g n (fun i => .int .u8 (f i))

theorem Row.cell {w : World} {g n : Nat} {f : Nat → Int} (h : Row w g n f) : ∀ i, i < n → w.cell? ⟨g, i, none⟩ = some (.int .u8 (f i)) := RowV.cell h
theorem Row.frozen {w : World} {g n : Nat} {f : Nat → Int} (h : Row w g n f) : ∀ i, w.frozen? ⟨g, i, none⟩ = false := RowV.frozen h
theorem Row.lt {w : World} {g n : Nat} {f : Nat → Int} (h : Row w g n f) : g < w.heap.size := RowV.lt h
theorem Row.same {w w' : World} {g n : Nat} {f : Nat → Int} (h : Row w g n f) (hb : w'.heap[g]? = w.heap[g]?) : Row w' g n f := RowV.same h hb
theorem Row.kept {w w' : World} {B g n : Nat} {f : Nat → Int} (h : Row w g n f) (hb : Below B w w') (hg : g < B) : Row w' g n f := RowV.kept h hb hg
theorem Row.congr {w : World} {g n : Nat} {f f' : Nat → Int} (h : Row w g n f) (he : ∀ i, i < n → f i = f' i) : Row w g n f' := RowV.congr h (fun i hi => by rw [he i hi])
theorem Row.aside {w : World} {g n : Nat} {f : Nat → Int} (h : Row w g n f) (p : Addr) (u : Value) (hp : g ≠ p.block) : Row (w.setCell p u) g n f := RowV.aside h p u hp
theorem Row.stored {w : World} {g n : Nat} {f : Nat → Int} (h : Row w g n f) (i : Nat) (x : Int) : Row (w.setCell ⟨g, i, none⟩ (.int .u8 x)) g n (fun j => if j = i then x else f j) :=
  RowV.congr (RowV.stored h i (.int .u8 x)) (fun j _ => by by_cases e : j = i <;> simp [e])

theorem Row.bytes {w : World} {g n : Nat} {f : Nat → Int} (h : Row w g n f) : Bytes w (some ⟨g, 0, none⟩) n f :=
  .inr ⟨g, 0, rfl, fun i hi => by simpa using h.cell i hi⟩

theorem Bytes.kept {w w' : World} {a : Option Addr} {n : Nat} {f : Nat → Int} (h : Bytes w a n f) (hb : Below w.heap.size w w') : Bytes w' a n f := by
  rcases h with h | ⟨b, off, ha, hc⟩
  · exact .inl h
  · refine .inr ⟨b, off, ha, fun i hi => ?_⟩
    have := hc i hi
    rw [hb.cell (World.block_lt_of_cell? _ _ this), this]

/-- 'make([]byte, n)'. -/
theorem make_row (n : Nat) (hn : n ≤ 2097152) (w : World) :
    ∃ w', (Instr.makeSlice 22 (.int .i64 n) (.int .i64 n)).run Try.prog w = .ok (.slice (some ⟨w.heap.size, 0, none⟩) n n) w' ∧ Row w' w.heap.size n (fun _ => 0) ∧ Below w.heap.size w w' ∧ w'.heap.size = w.heap.size + 1 := by
  obtain ⟨i, hi, hz0, hz1, hz2⟩ := info_parts info5
  have hr := run_make (P := Try.prog) w 22 5 i _ Try.underlying22 hi hz0 .i64 .i64 (n : Int) (n : Int) (by omega) (Int.le_refl _) (by rw [hz2]; omega) (by omega)
  simp only [Int.toNat_natCast, hz1, Nat.mul_one] at hr
  refine ⟨_, hr, ?_, (Below.refl _ _).alloc (Nat.le_refl _) _, by simp⟩
  unfold Row RowV
  rw [heap_alloc_new]
  congr 2
  have e : (madeCells #[Value.int .u8 0] n).toList = cellsOf n (fun _ => .int .u8 0) := by
    rw [toList_madeCells_one]
    apply List.ext_getElem?
    intro j
    rw [cellsOf_get]
    by_cases hj : j < n <;> simp [hj]
  rw [← e]
  rfl


/-! ### a slice of bytes that came in -/
/-- WHAT THE WALK IS TOLD OF A SLICE OF INTEGERS THAT CAME IN: it is nil; or it leads to a row of 'cap' cells, the numbers 'zs' (the first 'len' are its elements, the rest its spare room), each fitting its kind. -/
def IsRow (k : IntKind) (w : World) (a : Option Addr) (len cap : Nat) (zs : List Int) : Prop :=
  (a = none ∧ len = 0 ∧ cap = 0 ∧ zs = []) ∨
  ∃ x, a = some x ∧ len ≤ cap ∧ cap ≤ maxLen ∧ zs.length = cap ∧ (∀ i, i < zs.length → w.cell? (x.add i) = some (.int k (zs.getD i 0))) ∧ ∀ n ∈ zs, (Lit.int k n).wf = true

theorem IsRow.bytes {w : World} {a : Option Addr} {len cap : Nat} {zs : List Int} (h : IsRow .u8 w a len cap zs) :
    (a = none ∧ len = 0 ∧ cap = 0) ∨ ∃ x f, a = some x ∧ Bytes w (some x) len f ∧ ∀ i, i < len → 0 ≤ f i ∧ f i ≤ 255 := by
  rcases h with ⟨h1, h2, h3, _⟩ | ⟨x, rfl, h2, h3, h4, h5, h6⟩
  · exact .inl ⟨h1, h2, h3⟩
  · refine .inr ⟨x, fun i => zs.getD i 0, rfl, ?_, ?_⟩
    · by_cases h0 : len = 0
      · exact .inl h0
      · obtain ⟨b, off, spot⟩ := x
        have hspot : spot = none := by simpa [Addr.add] using World.cell?_spot (h5 0 (by omega))
        subst hspot
        exact .inr ⟨b, off, rfl, fun i hi => by have := h5 i (by omega); rwa [Addr.add_lit] at this⟩
    · intro i hi
      have hm : zs.getD i 0 ∈ zs := by
        have : i < zs.length := by omega
        simp [this]
      exact bounds_u8 (h6 _ hm)

theorem clone_nil (w : World) :
    Calls Try.prog 8 #[.slice none 0 0] w fun e w' => e = .returned (.slice none 0 0) ∧ w = w' := by
  have hq := fun wx => Lib.run_eql_slice_nil (P := Try.prog) wx 22 5 none 0 0 0 0 Try.underlying22
  go_enter Try.func8, Try.ntmps8
  go_wp2
  go_ret
  exact ⟨rfl, rfl⟩

theorem step_fill (g : Nat → Int) (j k : Nat) : (if j = k then g k else if j < k then g j else 0) = if j < k + 1 then g j else 0 := by
  by_cases h : j = k
  · subst h; simp
  · by_cases h2 : j < k
    · have : j < k + 1 := by omega
      simp [h, h2, this]
    · have : ¬ j < k + 1 := by omega
      simp [h, h2, this]

set_option maxHeartbeats 400000 in
theorem clone_some (x : Addr) (n c : Nat) (f : Nat → Int) (w : World) (hn : n ≤ 1048576) (hb : Bytes w (some x) n f) :
    Calls Try.prog 8 #[.slice (some x) n c] w fun e w' => e = .returned (.slice (some ⟨w.heap.size, 0, none⟩) n n) ∧ Row w' w.heap.size n f ∧ Below w.heap.size w w' := by
  have hq := fun wx => Lib.run_eql_slice_nil (P := Try.prog) wx 22 5 (some x) n c 0 0 Try.underlying22
  obtain ⟨w1, hmk, r1, b1, s1⟩ := make_row n (by omega) w
  have HR : Hid (Row w1 w.heap.size n (fun _ => 0)) := r1
  have HB : Hid (Below w.heap.size w w1) := b1
  have HX : Hid (Bytes w (some x) n f) := hb
  clear r1 b1 s1 hb
  go_enter Try.func8, Try.ntmps8
  go_wp2
  go_loopw [4] (fun iv wr => ∃ k : Nat, k ≤ n ∧ iv = .int .i64 k ∧ Row wr w.heap.size n (fun j => if j < k then f j else 0) ∧ Below w.heap.size w wr) (fun iv _ => n - (intOf iv).toNat)
  case atStart => exact ⟨0, Nat.zero_le _, rfl, HR.out.congr (fun i _ => by simp), HB.out⟩
  case round =>
    obtain ⟨k, hk, rfl, hr, hbel⟩ := hrel
    by_cases hlt : k < n
    · have hc := hr.cell k hlt
      have hf := hr.frozen k
      rcases HX.out with h0 | ⟨b, off, hx, hcs⟩
      · omega
      have hsrc := hcs k hlt
      have hbb : b < w.heap.size := World.block_lt_of_cell? _ _ hsrc
      have hsrc' : wr.cell? ⟨b, off + k, none⟩ = some (.int .u8 (f k)) := (hbel.cell (p := ⟨b, off + k, none⟩) hbb).trans hsrc
      have HR2 : Hid (Row wr w.heap.size n (fun j => if j < k then f j else 0)) := hr
      have HB2 : Hid (Below w.heap.size w wr) := hbel
      obtain rfl : x = ⟨b, off, none⟩ := by simpa using hx
      clear hr hbel hcs hsrc hx
      go_wp2
      go_roundw
      case rel => exact ⟨k + 1, by omega, by go_num, (HR2.out.stored k _).congr (fun j _ => step_fill f j k), HB2.out.setCell (Nat.le_refl _) _⟩
      case measure => simp [intOf]; omega
    · obtain rfl : k = n := by omega
      have HR2 : Hid (Row wr w.heap.size k f) := hr.congr (fun j hj => by rw [if_pos hj])
      have HB2 : Hid (Below w.heap.size w wr) := hbel
      clear hr hbel
      go_wp2
      go_ret
      exact ⟨rfl, HR2.out, HB2.out⟩
end Go.Proofs.Qxb6603188a
