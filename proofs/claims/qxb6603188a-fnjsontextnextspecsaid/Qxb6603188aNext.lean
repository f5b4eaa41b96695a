/-
  THE WALK OF '(*jsonText).next' AND ITS SHIM.
-/
import Derived.Test.Qxb6603188aRow
import Derived.Deep.QuietTactic
import Derived.BigQuiet
import Derived.Deep.LoopGhost
import Derived.WalkSmall
namespace Go.Proofs.Qxb6603188a
open Go.RowKit

/-- JSON's white space. -/
def Ws (c : Int) : Prop := c = 32 ∨ c = 9 ∨ c = 13 ∨ c = 10

/-- Where 'next' lands: the first place from 'pos' on that is no white space, or the end. -/
def Land (f : Nat → Int) (n pos p : Nat) : Prop := pos ≤ p ∧ (p ≤ n ∨ p = pos) ∧ (∀ i, pos ≤ i → i < p → Ws (f i)) ∧ (p < n → ¬ Ws (f p))
def byteAt (f : Nat → Int) (n p : Nat) : Int := if p < n then f p else 0

theorem ws_ways {c : Int} (h : Ws c) : (c == 32) = true ∨ ((c == 32) = false ∧ (c == 9) = true) ∨ ((c == 32) = false ∧ (c == 9) = false ∧ (c == 13) = true) ∨ ((c == 32) = false ∧ (c == 9) = false ∧ (c == 13) = false ∧ (c == 10) = true) := by
  rcases h with rfl | rfl | rfl | rfl <;> decide
theorem nows_way {c : Int} (h : ¬ Ws c) : (c == 32) = false ∧ (c == 9) = false ∧ (c == 13) = false ∧ (c == 10) = false := by
  unfold Ws at h
  simp only [beq_eq_false_iff_ne, ne_eq]
  omega

/-- What 'next' leaves, its struct lying at block g. -/
def NextPost (f : Nat → Int) (n pos g : Nat) (w : World) (e : Ending) (w' : World) : Prop :=
  ∃ p, Land f n pos p ∧ e = .returned (.int .u8 (byteAt f n p)) ∧ w'.cell? ⟨g, 1, none⟩ = some (.int .i64 p) ∧ Below g w w'

/-- The loop's relation. -/
def Skip (f : Nat → Int) (n c pos g : Nat) (a : Option Addr) (w : World) (gk : Nat) (wr : World) : Prop :=
  ∃ k : Nat, gk + k = n + pos ∧ pos ≤ k ∧ (k ≤ n ∨ k = pos) ∧ (∀ i, pos ≤ i → i < k → Ws (f i)) ∧ wr.cell? ⟨g, 0, none⟩ = some (.slice a n c) ∧ wr.cell? ⟨g, 1, none⟩ = some (.int .i64 k) ∧ wr.frozen? ⟨g, 1, none⟩ = false ∧ Below g w wr

theorem skip_step {f : Nat → Int} {n c pos g gk k : Nat} {a : Option Addr} {w wr : World} (h1 : gk + k = n + pos) (h2 : pos ≤ k) (h3 : k < n) (h4 : ∀ i, pos ≤ i → i < k → Ws (f i)) (h5 : Ws (f k))
    (hc0 : wr.cell? ⟨g, 0, none⟩ = some (.slice a n c)) (hc1 : wr.cell? ⟨g, 1, none⟩ = some (.int .i64 k)) (hfz : wr.frozen? ⟨g, 1, none⟩ = false) (hb : Below g w wr) (q : Nat) :
    Skip f n c pos g a w (gk - 1) ((wr.drewN q).setCell ⟨g, 1, none⟩ (.int .i64 ((k : Int) + 1))) := by
  refine ⟨k + 1, by omega, by omega, .inl (by omega), fun i hi hik => ?_, ?_, ?_, ?_, ?_⟩
  · by_cases e : i = k
    · subst e; exact h5
    · exact h4 i hi (by omega)
  · rw [World.cell?_setCell_other]
    · exact hc0
    · simp
  · have := World.cell?_setCell_same (w := wr.drewN q) (a := ⟨g, 1, none⟩) (v := .int .i64 ((k : Int) + 1)) hc1
    rw [this]
    simp
  · rw [World.frozen?_setCell]
    exact hfz
  · exact (below_drewN hb q).setCell (Nat.le_refl _) _

set_option maxHeartbeats 1000000 in
theorem next_any (g : Nat) (a : Option Addr) (n c : Nat) (f : Nat → Int) (pos : Nat) (w : World) (hn : n ≤ 4194304) (hp : pos ≤ 9223372036854775807)
    (h0 : w.cell? ⟨g, 0, none⟩ = some (.slice a n c)) (h1 : w.cell? ⟨g, 1, none⟩ = some (.int .i64 pos)) (hf : w.frozen? ⟨g, 1, none⟩ = false)
    (hb : n = 0 ∨ ∃ b off, a = some ⟨b, off, none⟩ ∧ b < g ∧ ∀ i, i < n → w.cell? ⟨b, off + i, none⟩ = some (.int .u8 (f i))) :
    Calls Try.prog 19 #[.pointer (some ⟨g, 0, none⟩)] w (NextPost f n pos g w) := by
  have HS : Hid (Skip f n c pos g a w n w) := ⟨pos, rfl, Nat.le_refl _, .inr rfl, fun i h1 h2 => by omega, h0, h1, hf, Below.refl _ _⟩
  have HX : Hid (n = 0 ∨ ∃ b off, a = some ⟨b, off, none⟩ ∧ b < g ∧ ∀ i, i < n → w.cell? ⟨b, off + i, none⟩ = some (.int .u8 (f i))) := hb
  clear h0 h1 hf hb
  go_enter Try.func19, Try.ntmps19
  go_wp2
  go_loopg [3] n (fun gk cv wr => Skip f n c pos g a w gk wr)
  case atStart => exact HS.out
  case round =>
    obtain ⟨k, hgk, hpk, hkn, hws, hc0, hc1, hfz, hbel⟩ := hrel
    have hkmax : k ≤ 9223372036854775807 := by omega
    by_cases hlt : k < n
    · rcases HX.out with h0 | ⟨b, off, ha, hbg, hcs⟩
      · omega
      subst ha
      have hcell : wr.cell? ⟨b, off + k, none⟩ = some (.int .u8 (f k)) := (hbel.cell (p := ⟨b, off + k, none⟩) hbg).trans (hcs k hlt)
      have hlt' : (k : Int) < (n : Int) := by omega
      have HB : Hid (Below g w wr) := hbel
      have HW : Hid (∀ i, pos ≤ i → i < k → Ws (f i)) := hws
      have HG : Hid (gk + k = n + pos) := hgk
      clear hbel hws hcs hgk
      by_cases hw : Ws (f k)
      · have hww := ws_ways hw
        have HK : Hid (Ws (f k)) := hw
        clear hw
        rcases hww with e1 | ⟨e1, e2⟩ | ⟨e1, e2, e3⟩ | ⟨e1, e2, e3, e4⟩
        all_goals
          go_wp2
          go_quiet (fail)
          go_wp2
          go_quiet (fail)
          go_wp2
          go_roundg (gk - 1)
          case measure => have := HG.out; omega
          case rel => exact skip_step HG.out hpk hlt HW.out HK.out hc0 hc1 hfz HB.out _
      · obtain ⟨e1, e2, e3, e4⟩ := nows_way hw
        have HK : Hid (¬ Ws (f k)) := hw
        clear hw
        go_wp2
        go_quiet (fail)
        go_wp2
        go_quiet (fail)
        go_wp2
        go_ret
        exact ⟨k, ⟨hpk, .inl (by omega), HW.out, fun _ => HK.out⟩, by simp [byteAt, hlt], hc1, below_drewN HB.out _⟩
    · have HB : Hid (Below g w wr) := hbel
      have HW : Hid (∀ i, pos ≤ i → i < k → Ws (f i)) := hws
      have HG : Hid (gk + k = n + pos) := hgk
      have hge : ¬ (k : Int) < (n : Int) := by omega
      clear hbel hws hgk
      go_wp2
      go_quiet (fail)
      go_wp2
      go_ret
      exact ⟨k, ⟨hpk, hkn, HW.out, fun h => absurd h hlt⟩, by simp [byteAt, hlt], hc1, below_drewN HB.out _⟩

/-- What the shim leaves. -/
def ZPost (f : Nat → Int) (n pos : Nat) (w : World) (e : Ending) (w' : World) : Prop :=
  ∃ p, Land f n pos p ∧ e = .returned (.tuple #[.int .u8 (byteAt f n p), .int .i64 p]) ∧ Below w.heap.size w w'

set_option maxHeartbeats 400000 in
theorem znext_any (a : Option Addr) (n c : Nat) (f : Nat → Int) (pos : Nat) (w : World) (hn : n ≤ 4194304) (hp : pos ≤ 9223372036854775807) (hb : Bytes w a n f) :
    Calls Try.prog 9 #[.slice a n c, .int .i64 pos] w (ZPost f n pos w) := by
  have HX : Hid (n = 0 ∨ ∃ b off, a = some ⟨b, off, none⟩ ∧ b < w.heap.size ∧ ∀ i, i < n → (w.alloc (.cells #[.slice a n c, .int .i64 pos] 39)).cell? ⟨b, off + i, none⟩ = some (.int .u8 (f i))) := by
    rcases hb with h | ⟨b, off, ha, hcs⟩
    · exact .inl h
    · by_cases h0 : n = 0
      · exact .inl h0
      · have hlt : b < w.heap.size := World.block_lt_of_cell? _ _ (hcs 0 (by omega))
        refine .inr ⟨b, off, ha, hlt, fun i hi => ?_⟩
        exact (Below.cell ((Below.refl w.heap.size w).alloc (Nat.le_refl _) _) hlt).trans (hcs i hi)
  clear hb
  go_enter Try.func9, Try.ntmps9
  go_wp2_with fail
  refine (next_any w.heap.size a n c f pos _ hn hp ?_ ?_ ?_ HX.out).mono ?_
  · simp [go_sem]
  · simp [go_sem]
  · simp [go_sem]
  · rintro e w1 ⟨p, hL, rfl, hc, hbel⟩
    have HL : Hid (Land f n pos p) := hL
    have HB : Hid (Below w.heap.size w w1) := ((Below.refl _ _).alloc (Nat.le_refl _) _).trans hbel
    clear hL hbel HX
    go_wp2
    go_quiet (fail)
    go_wp2
    go_ret2
    exact ⟨p, HL.out, rfl, below_drewN HB.out _⟩
end Go.Proofs.Qxb6603188a
