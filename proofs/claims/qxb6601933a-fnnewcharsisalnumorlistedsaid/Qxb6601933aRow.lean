/-
  ROWS OF BYTES THAT A CALL ITSELF MAKES: what 'make', 'copy' and a store do to them.
-/
import Derived.Test.Qxb6601933aRead
import Derived.Laws.CopyOwn
import Derived.WalkSpells
import Derived.Outline
namespace Go.Proofs.Qxb6601933a
open Go.RowKit Plain

theorem info5 : (Try.prog.info? 5).map (fun i => (i.zero, i.size, i.bytes)) = some (some (.int .u8 0), 1, 1) := by kernel_rfl
theorem size5 : (Try.prog.info? 5).map (·.size) = some 1 := by kernel_rfl

/-- n cells. -/
def cellsOf (n : Nat) (v : Nat → Value) : List Value := (List.range n).map v
theorem cellsOf_length (n : Nat) (v : Nat → Value) : (cellsOf n v).length = n := by simp [cellsOf]
theorem cellsOf_get (n : Nat) (v : Nat → Value) (i : Nat) : (cellsOf n v)[i]? = if i < n then some (v i) else none := by
  unfold cellsOf
  by_cases h : i < n <;> simp [h]

/-- Block g is a row of n cells of the call's own, of type t: the values 'v'. -/
def RowV (t : TypeId) (w : World) (g n : Nat) (v : Nat → Value) : Prop := w.heap[g]? = some (.cells (cellsOf n v).toArray t (0, 0))

theorem RowV.cell {t : TypeId} {w : World} {g n : Nat} {v : Nat → Value} (h : RowV t w g n v) : ∀ i, i < n → w.cell? ⟨g, i, none⟩ = some (v i) := by
  intro i hi
  unfold RowV at h
  simp [World.cell?, h, cellsOf_get, hi]

theorem RowV.frozen {t : TypeId} {w : World} {g n : Nat} {v : Nat → Value} (h : RowV t w g n v) : ∀ i, w.frozen? ⟨g, i, none⟩ = false := by
  intro i
  unfold RowV at h
  simp [World.frozen?, h]

theorem RowV.lt {t : TypeId} {w : World} {g n : Nat} {v : Nat → Value} (h : RowV t w g n v) : g < w.heap.size := by
  unfold RowV at h
  exact (Array.getElem?_eq_some_iff.1 h).1

theorem RowV.same {t : TypeId} {w w' : World} {g n : Nat} {v : Nat → Value} (h : RowV t w g n v) (hb : w'.heap[g]? = w.heap[g]?) : RowV t w' g n v := by
  unfold RowV at *
  rw [hb, h]

theorem RowV.kept {t : TypeId} {w w' : World} {B g n : Nat} {v : Nat → Value} (h : RowV t w g n v) (hb : Below B w w') (hg : g < B) : RowV t w' g n v :=
  h.same (hb.block g hg)

theorem RowV.congr {t : TypeId} {w : World} {g n : Nat} {v v' : Nat → Value} (h : RowV t w g n v) (he : ∀ i, i < n → v i = v' i) : RowV t w g n v' := by
  have e : cellsOf n v = cellsOf n v' := by
    apply List.ext_getElem?
    intro i
    rw [cellsOf_get, cellsOf_get]
    by_cases hi : i < n
    · simp [hi, he i hi]
    · simp [hi]
  unfold RowV at *
  rw [← e]
  exact h

/-- A store into a row. -/
theorem RowV.stored {t : TypeId} {w : World} {g n : Nat} {v : Nat → Value} (h : RowV t w g n v) (i : Nat) (u : Value) : RowV t (w.setCell ⟨g, i, none⟩ u) g n (fun j => if j = i then u else v j) := by
  unfold RowV at *
  rw [setCell_eq_setRow w g i _ _ _ _ h, setRow_heap w g _ _ _ _ h]
  congr 2
  apply Array.ext_getElem?
  intro j
  simp only [Array.getElem?_setIfInBounds, List.getElem?_toArray, List.size_toArray, cellsOf_length, cellsOf_get]
  by_cases hj : i = j
  · subst hj
    by_cases hi : i < n <;> simp [hi]
  · have : ¬ j = i := fun e => hj e.symm
    simp [hj, this]

/-- A store into another block. -/
theorem RowV.aside {t : TypeId} {w : World} {g n : Nat} {v : Nat → Value} (h : RowV t w g n v) (p : Addr) (u : Value) (hp : g ≠ p.block) : RowV t (w.setCell p u) g n v :=
  h.same (Below.heap_setCell _ _ _ _ hp)

theorem RowV.alloc {t : TypeId} {w : World} {g n : Nat} {v : Nat → Value} (h : RowV t w g n v) (o : Obj) : RowV t (w.alloc o) g n v :=
  h.same (Below.heap_alloc _ _ _ h.lt)

/-- A block that is laid written out. -/
theorem RowV.laid (t : TypeId) (w : World) (cs : List Value) (n : Nat) (v : Nat → Value) (h : cs = cellsOf n v) : RowV t (w.alloc (.cells cs.toArray t)) w.heap.size n v := by
  unfold RowV
  rw [heap_alloc_new, h]

/-- Block g is a row of n bytes of the call's own: the numbers 'f'. -/
def Row (w : World) (g n : Nat) (f : Nat → Int) : Prop := RowV 5 w g n (fun i => .int .u8 (f i))

theorem Row.cell {w : World} {g n : Nat} {f : Nat → Int} (h : Row w g n f) : ∀ i, i < n → w.cell? ⟨g, i, none⟩ = some (.int .u8 (f i)) := RowV.cell h
theorem Row.frozen {w : World} {g n : Nat} {f : Nat → Int} (h : Row w g n f) : ∀ i, w.frozen? ⟨g, i, none⟩ = false := RowV.frozen h
theorem Row.lt {w : World} {g n : Nat} {f : Nat → Int} (h : Row w g n f) : g < w.heap.size := RowV.lt h
theorem Row.same {w w' : World} {g n : Nat} {f : Nat → Int} (h : Row w g n f) (hb : w'.heap[g]? = w.heap[g]?) : Row w' g n f := RowV.same h hb
theorem Row.kept {w w' : World} {B g n : Nat} {f : Nat → Int} (h : Row w g n f) (hb : Below B w w') (hg : g < B) : Row w' g n f := RowV.kept h hb hg
theorem Row.congr {w : World} {g n : Nat} {f f' : Nat → Int} (h : Row w g n f) (he : ∀ i, i < n → f i = f' i) : Row w g n f' := RowV.congr h (fun i hi => by rw [he i hi])
theorem Row.aside {w : World} {g n : Nat} {f : Nat → Int} (h : Row w g n f) (p : Addr) (u : Value) (hp : g ≠ p.block) : Row (w.setCell p u) g n f := RowV.aside h p u hp
theorem Row.stored {w : World} {g n : Nat} {f : Nat → Int} (h : Row w g n f) (i : Nat) (x : Int) : Row (w.setCell ⟨g, i, none⟩ (.int .u8 x)) g n (fun j => if j = i then x else f j) :=
  RowV.congr (RowV.stored h i (.int .u8 x)) (fun j _ => by by_cases e : j = i <;> simp [e])

theorem Row.bytes {w : World} {g n : Nat} {f : Nat → Int} (h : Row w g n f) : Bytes w (some ⟨g, 0, none⟩) n f :=
  .inr ⟨g, 0, rfl, fun i hi => by simpa using h.cell i hi⟩

theorem Bytes.kept {w w' : World} {a : Option Addr} {n : Nat} {f : Nat → Int} (h : Bytes w a n f) (hb : Below w.heap.size w w') : Bytes w' a n f := by
  rcases h with h | ⟨b, off, ha, hc⟩
  · exact .inl h
  · refine .inr ⟨b, off, ha, fun i hi => ?_⟩
    have := hc i hi
    rw [hb.cell (World.block_lt_of_cell? _ _ this), this]

/-- 'make([]byte, n)'. -/
theorem make_row (n : Nat) (hn : n ≤ 2097152) (w : World) :
    ∃ w', (Instr.makeSlice 22 (.int .i64 n) (.int .i64 n)).run Try.prog w = .ok (.slice (some ⟨w.heap.size, 0, none⟩) n n) w' ∧ Row w' w.heap.size n (fun _ => 0) ∧ Below w.heap.size w w' ∧ w'.heap.size = w.heap.size + 1 := by
  obtain ⟨i, hi, hz0, hz1, hz2⟩ := info_parts info5
  have hr := run_make (P := Try.prog) w 22 5 i _ Try.underlying22 hi hz0 .i64 .i64 (n : Int) (n : Int) (by omega) (Int.le_refl _) (by rw [hz2]; omega) (by omega)
  simp only [Int.toNat_natCast, hz1, Nat.mul_one] at hr
  refine ⟨_, hr, ?_, (Below.refl _ _).alloc (Nat.le_refl _) _, by simp⟩
  unfold Row RowV
  rw [heap_alloc_new]
  congr 2
  have e : (madeCells #[Value.int .u8 0] n).toList = cellsOf n (fun _ => .int .u8 0) := by
    rw [toList_madeCells_one]
    apply List.ext_getElem?
    intro j
    rw [cellsOf_get]
    by_cases hj : j < n <;> simp [hj]
  rw [← e]
  rfl

/-- 'copy(dst, src)', dst lying in a row of the call's own. -/
theorem copy_row (w : World) (g dn : Nat) (df : Nat → Int) (hrow : Row w g dn df) (dp sp : Option Addr) (dl dc sl sc off m : Nat) (f : Nat → Int) (hb : Bytes w sp sl f)
    (hm : m = min sl dl) (hpos : 0 < m → dp = some ⟨g, off, none⟩) (hfit : off + m ≤ dn) :
    ∃ w', (∀ ty, (Builtin.copy_ #[22, 22] ty #[.slice dp dl dc, .slice sp sl sc]).run Try.prog w = .ok (.int .i64 m) w') ∧
      Row w' g dn (fun i => if off ≤ i ∧ i < off + m then f (i - off) else df i) ∧ (∀ k, k ≠ g → w'.heap[k]? = w.heap[k]?) ∧ Below g w w' ∧ w'.heap.size = w.heap.size := by
  by_cases h0 : m = 0
  · refine ⟨w, fun ty => ?_, ?_, fun _ _ => rfl, Below.refl _ _, rfl⟩
    · rw [h0]; exact run_copy_none (P := Try.prog) w 22 22 ty 5 dp sp dl dc sl sc Try.underlying22 size5 (by show min sl dl = 0; omega)
    · exact hrow.congr (fun i _ => by rw [if_neg (by omega)])
  · have hsl : m ≤ sl := by omega
    obtain rfl := hpos (by omega)
    rcases hb with rfl | ⟨b, o, rfl, hc⟩
    · omega
    refine ⟨w.setRow g ((cellsOf dn (fun i => .int .u8 (df i))).toArray.toList.take off ++ cellsOf m (fun i => .int .u8 (f i)) ++ (cellsOf dn (fun i => .int .u8 (df i))).toArray.toList.drop (off + (cellsOf m (fun i => .int .u8 (f i))).length)).toArray, fun ty => ?_, ?_, fun k hk => setRow_other w g k _ hk, below_setRow (Below.refl _ _) (Nat.le_refl _) _, by simp [World.setRow]⟩
    · have := run_copy_row (P := Try.prog) w 22 22 ty 5 g off dl dc ⟨b, o, none⟩ sl sc (cellsOf dn (fun i => .int .u8 (df i))).toArray 5 (cellsOf m (fun i => .int .u8 (f i))) Try.underlying22 size5 hrow (by rw [cellsOf_length, hm]) ?_ (by simp [cellsOf_length]; omega) ?_
      · rw [cellsOf_length] at this ⊢; exact this
      · intro j v hj
        rw [cellsOf_get] at hj
        by_cases hjm : j < m
        · rw [if_pos hjm] at hj
          rw [Addr.add_lit, hc j (by omega), hj]
        · simp [hjm] at hj
      · intro v hv
        unfold cellsOf at hv
        obtain ⟨_, _, rfl⟩ := List.mem_map.1 hv
        rfl
    · unfold Row RowV
      rw [setRow_heap w g _ _ _ _ hrow]
      congr 2
      apply Array.ext_getElem?
      intro j
      simp only [List.getElem?_toArray, cellsOf_get]
      by_cases h1 : j < off
      · rw [List.append_assoc, List.getElem?_append_left (by simp [cellsOf_length]; omega)]
        have : ¬ (off ≤ j ∧ j < off + m) := by omega
        simp [h1, cellsOf_get, this]
      · by_cases h2 : j < off + m
        · rw [List.append_assoc, List.getElem?_append_right (by simp [cellsOf_length]; omega), List.getElem?_append_left (by simp [cellsOf_length]; omega)]
          have e : min off dn = off := by omega
          have h3 : j - off < m := by omega
          have h4 : j < dn := by omega
          have h5 : off ≤ j ∧ j < off + m := by omega
          simp only [List.length_take, cellsOf_length, e, cellsOf_get, if_pos h3, if_pos h4, if_pos h5]
        · rw [List.append_assoc, List.getElem?_append_right (by simp [cellsOf_length]; omega), List.getElem?_append_right (by simp [cellsOf_length]; omega)]
          have e : min off dn = off := by omega
          have h5 : ¬ (off ≤ j ∧ j < off + m) := by omega
          have h6 : off + m + (j - off - m) = j := by omega
          simp [cellsOf_length, cellsOf_get, e, h5, h6]

theorem clone_nil (w : World) :
    Calls Try.prog 13 #[.slice none 0 0] w fun e w' => e = .returned (.slice none 0 0) ∧ w = w' := by
  have hq := fun wx => Lib.run_eql_slice_nil (P := Try.prog) wx 22 5 none 0 0 0 0 Try.underlying22
  go_enter Try.func13, Try.ntmps13
  go_wp2
  go_ret
  exact ⟨rfl, rfl⟩

set_option maxHeartbeats 400000 in
theorem clone_some (x : Addr) (n c : Nat) (f : Nat → Int) (w : World) (hn : n ≤ 1048576) (hb : Bytes w (some x) n f) :
    Calls Try.prog 13 #[.slice (some x) n c] w fun e w' => e = .returned (.slice (some ⟨w.heap.size, 0, none⟩) n n) ∧ Row w' w.heap.size n f ∧ Below w.heap.size w w' ∧ w'.heap.size = w.heap.size + 1 := by
  have hq := fun wx => Lib.run_eql_slice_nil (P := Try.prog) wx 22 5 (some x) n c 0 0 Try.underlying22
  obtain ⟨w1, hmk, r1, b1, s1⟩ := make_row n (by omega) w
  obtain ⟨w2, hcp, r2, o2, b2, s2⟩ := copy_row w1 w.heap.size n _ r1 (some ⟨w.heap.size, 0, none⟩) (some x) n n n c 0 n f (hb.kept b1) (by simp) (fun _ => rfl) (by omega)
  have HR : Hid (Row w2 w.heap.size n f) := r2.congr (fun i hi => by rw [if_pos (by omega)]; simp)
  have HB : Hid (Below w.heap.size w w2) := b1.trans b2
  have HS : Hid (w2.heap.size = w.heap.size + 1) := s2.trans s1
  clear r1 b1 s1 r2 o2 b2 s2 hb
  go_enter Try.func13, Try.ntmps13
  go_wp2
  go_ret
  exact ⟨rfl, HR.out, HB.out, HS.out⟩
end Go.Proofs.Qxb6601933a
