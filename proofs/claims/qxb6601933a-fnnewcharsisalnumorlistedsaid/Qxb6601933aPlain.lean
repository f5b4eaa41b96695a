/-
  PLAIN MATHEMATICS OF THE SEAT b6601933a: no Go in sight. A row of bytes is told by a function 'f : Nat → Int' and a length.
-/
namespace Go.Proofs.Qxb6601933a.Plain

/-- The number that the first k digits write. -/
def val (f : Nat → Int) : Nat → Int
  | 0 => 0
  | k + 1 => 10 * val f k + (f k - 48)

def Digs (f : Nat → Int) (n : Nat) : Prop := ∀ i, i < n → 48 ≤ f i ∧ f i ≤ 57

theorem digs_succ {f : Nat → Int} {n : Nat} (h : Digs f n) (h1 : 48 ≤ f n) (h2 : f n ≤ 57) : Digs f (n + 1) := by
  intro i hi
  by_cases e : i = n
  · subst e; exact ⟨h1, h2⟩
  · exact h i (by omega)

theorem digs_le {f : Nat → Int} {n m : Nat} (h : Digs f n) (hm : m ≤ n) : Digs f m := fun i hi => h i (by omega)

theorem val_bd {f : Nat → Int} : ∀ {n : Nat}, Digs f n → 0 ≤ val f n ∧ val f n < 10 ^ n
  | 0, _ => by simp [val]
  | n + 1, h => by
    have ih := val_bd (digs_le h (Nat.le_succ n))
    have hd := h n (Nat.lt_succ_self n)
    have e : (10 : Int) ^ (n + 1) = 10 * 10 ^ n := by rw [Int.pow_succ]; omega
    simp only [val]
    rw [e]
    omega

theorem pow_le11 : ∀ {k : Nat}, k < 12 → (10 : Int) ^ k ≤ 100000000000
  | 0, _ => by decide
  | 1, _ => by decide
  | 2, _ => by decide
  | 3, _ => by decide
  | 4, _ => by decide
  | 5, _ => by decide
  | 6, _ => by decide
  | 7, _ => by decide
  | 8, _ => by decide
  | 9, _ => by decide
  | 10, _ => by decide
  | 11, _ => by decide
  | n + 12, h => by omega

theorem val_bd11 {f : Nat → Int} {k : Nat} (h : Digs f k) (hk : k < 12) : 0 ≤ val f k ∧ val f k ≤ 99999999999 := by
  have := val_bd h
  have := pow_le11 hk
  omega

theorem val_congr {f g : Nat → Int} : ∀ {n : Nat}, (∀ i, i < n → f i = g i) → val f n = val g n
  | 0, _ => rfl
  | n + 1, h => by
    simp only [val]
    rw [val_congr (n := n) (fun i hi => h i (by omega)), h n (by omega)]

/-- Zeros ahead change nothing. -/
theorem val_zeros {f g : Nat → Int} (m : Nat) (hz : ∀ i, i < m → g i = 48) : ∀ {n : Nat}, (∀ i, i < n → g (m + i) = f i) → val g (m + n) = val f n
  | 0, _ => by
    have : ∀ k, k ≤ m → val g k = 0 := by
      intro k
      induction k with
      | zero => intro _; rfl
      | succ k ih => intro hk; simp only [val]; rw [ih (by omega), hz k (by omega)]; omega
    simpa [val] using this m (Nat.le_refl m)
  | n + 1, h => by
    have ih := val_zeros (f := f) (g := g) m hz (n := n) (fun i hi => h i (by omega))
    show 10 * val g (m + n) + (g (m + n) - 48) = 10 * val f n + (f n - 48)
    rw [ih, h n (by omega)]

/-- What 'readLength' answers. -/
def DecOk (f : Nat → Int) (n : Nat) : Prop := 1 ≤ n ∧ n ≤ 12 ∧ Digs f n

end Go.Proofs.Qxb6601933a.Plain
