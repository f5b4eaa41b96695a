/-
  WHAT STANDS WHERE IN newMember's TEXT; '[]byte(s)', 'string(b[i:j])', 'allJSONSpaceB1'.
-/
import Derived.Test.Qxb6603188aText
import Derived.Laws.BytesArg
import Derived.Laws.IdiomStrings
namespace Go.Proofs.Qxb6603188a
open Go.RowKit

def pre (m : Nat) : ByteArray := if m = 0 then ByteArray.empty else ⟨#[44]⟩
def gap (nl : ByteArray) : ByteArray := if nl.size = 0 then ByteArray.empty else ⟨#[32]⟩
def preN (m : Nat) : Nat := if m = 0 then 0 else 1
def gapN (nl : ByteArray) : Nat := if nl.size = 0 then 0 else 1

theorem pre_size (m : Nat) : (pre m).size = preN m := by
  unfold pre preN
  by_cases h : m = 0
  · rw [if_pos h, if_pos h]; rfl
  · rw [if_neg h, if_neg h]; rfl
theorem gap_size (nl : ByteArray) : (gap nl).size = gapN nl := by
  unfold gap gapN
  by_cases h : nl.size = 0
  · rw [if_pos h, if_pos h]; rfl
  · rw [if_neg h, if_neg h]; rfl

theorem txt_parts (m : Nat) (nl ind ky vl : ByteArray) : txt m nl ind ky vl = pre m ++ (body nl ind ky ++ (gap nl ++ vl)) := by
  unfold txt pre gap
  by_cases h : m = 0
  · rw [if_pos h, if_pos h]
    by_cases h2 : nl.size = 0
    · rw [if_pos h2, if_pos h2, ByteArray.empty_append, ByteArray.empty_append]
    · rw [if_neg h2, if_neg h2, ByteArray.empty_append, ByteArray.append_assoc]
  · rw [if_neg h, if_neg h]
    by_cases h2 : nl.size = 0
    · rw [if_pos h2, if_pos h2, ByteArray.empty_append]
    · rw [if_neg h2, if_neg h2, ByteArray.append_assoc (b := ⟨#[32]⟩)]

theorem lb_left {a b : ByteArray} {i : Nat} (h : i < a.size) : lb (a ++ b) i = lb a i := by rw [lb_append, if_pos h]
theorem lb_right (a b : ByteArray) (j : Nat) : lb (a ++ b) (a.size + j) = lb b j := by rw [lb_append, if_neg (by omega), Nat.add_sub_cancel_left]
theorem lb_at {a b : ByteArray} {i j : Nat} (h : i = a.size + j) : lb (a ++ b) i = lb b j := by rw [h, lb_right]
theorem size_add (a b : ByteArray) : (a ++ b).size = a.size + b.size := ByteArray.size_append
theorem size_q : (⟨#[34]⟩ : ByteArray).size = 1 := rfl
theorem size_qc : (⟨#[34, 58]⟩ : ByteArray).size = 2 := rfl

theorem body_size (nl ind ky : ByteArray) : (body nl ind ky).size = nl.size + ind.size + 1 + ky.size + 2 := by
  unfold body
  rw [size_add, size_add, size_add, size_add, size_q, size_qc]

/-- The text's places: P: the key's quote; V: where the value begins. -/
structure Laid (t : ByteArray) (m : Nat) (ky vl : ByteArray) (q P V : Nat) : Prop where
  lead : m ≠ 0 → q = 1 ∧ lb t 0 = 44
  bare : m = 0 → q = 0
  le : q ≤ P
  space : ∀ i, q ≤ i → i < P → Ws (lb t i)
  quote : lb t P = 34
  key : ∀ j, j < ky.size → lb t (P + 1 + j) = lb ky j
  quote2 : lb t (P + 1 + ky.size) = 34
  colon : lb t (P + 2 + ky.size) = 58
  mid : P + 3 + ky.size ≤ V
  skip : ∀ i, P + 3 + ky.size ≤ i → i < V → Ws (lb t i)
  value : ∀ j, j < vl.size → lb t (V + j) = lb vl j
  size : t.size = V + vl.size

def AllWs (s : ByteArray) : Prop := ∀ i, i < s.size → Ws (lb s i)

theorem laid (m : Nat) (nl ind ky vl : ByteArray) (h1 : AllWs nl) (h2 : AllWs ind) :
    Laid (txt m nl ind ky vl) m ky vl (preN m) (preN m + nl.size + ind.size) (preN m + nl.size + ind.size + 3 + ky.size + gapN nl) := by
  rw [txt_parts]
  have hp := pre_size m
  have hg := gap_size nl
  have hb := body_size nl ind ky
  have inBody : ∀ i, i < (body nl ind ky).size → lb (pre m ++ (body nl ind ky ++ (gap nl ++ vl))) (preN m + i) = lb (body nl ind ky) i := by
    intro i hi
    rw [← hp, lb_right, lb_left hi]
  have e1 : ∀ i, i < nl.size → lb (body nl ind ky) i = lb nl i := by
    intro i hi
    unfold body
    rw [lb_left (by rw [size_add, size_add, size_add, size_q]; omega), lb_left (by rw [size_add, size_add, size_q]; omega), lb_left (by rw [size_add]; omega), lb_left hi]
  have e2 : ∀ i, i < ind.size → lb (body nl ind ky) (nl.size + i) = lb ind i := by
    intro i hi
    unfold body
    rw [lb_left (by rw [size_add, size_add, size_add, size_q]; omega), lb_left (by rw [size_add, size_add, size_q]; omega), lb_left (by rw [size_add]; omega), lb_right]
  have e3 : lb (body nl ind ky) (nl.size + ind.size) = 34 := by
    unfold body
    rw [lb_left (by rw [size_add, size_add, size_add, size_q]; omega), lb_left (by rw [size_add, size_add, size_q]; omega), lb_at (j := 0) (by rw [size_add]; omega)]
    rfl
  have e4 : ∀ j, j < ky.size → lb (body nl ind ky) (nl.size + ind.size + 1 + j) = lb ky j := by
    intro j hj
    unfold body
    rw [lb_left (by rw [size_add, size_add, size_add, size_q]; omega), lb_at (j := j) (by rw [size_add, size_add, size_q])]
  have e5 : lb (body nl ind ky) (nl.size + ind.size + 1 + ky.size) = 34 := by
    unfold body
    rw [lb_at (j := 0) (by rw [size_add, size_add, size_add, size_q]; omega)]
    rfl
  have e6 : lb (body nl ind ky) (nl.size + ind.size + 2 + ky.size) = 58 := by
    unfold body
    rw [lb_at (j := 1) (by rw [size_add, size_add, size_add, size_q]; omega)]
    rfl
  refine ⟨?_, ?_, by omega, ?_, ?_, ?_, ?_, ?_, by omega, ?_, ?_, ?_⟩
  · intro hm
    have hq : preN m = 1 := by unfold preN; rw [if_neg hm]
    refine ⟨hq, ?_⟩
    rw [lb_left (by rw [hp, hq]; omega)]
    unfold pre
    rw [if_neg hm]
    rfl
  · intro hm
    unfold preN
    rw [if_pos hm]
  · intro i hi1 hi2
    obtain ⟨d, rfl⟩ : ∃ d, i = preN m + d := ⟨i - preN m, by omega⟩
    rw [inBody d (by rw [hb]; omega)]
    by_cases c : d < nl.size
    · rw [e1 d c]; exact h1 d c
    · obtain ⟨d', rfl⟩ : ∃ d', d = nl.size + d' := ⟨d - nl.size, by omega⟩
      rw [e2 d' (by omega)]; exact h2 d' (by omega)
  · rw [Nat.add_assoc, inBody _ (by rw [hb]; omega), e3]
  · intro j hj
    rw [show preN m + nl.size + ind.size + 1 + j = preN m + (nl.size + ind.size + 1 + j) by omega, inBody _ (by rw [hb]; omega), e4 j hj]
  · rw [show preN m + nl.size + ind.size + 1 + ky.size = preN m + (nl.size + ind.size + 1 + ky.size) by omega, inBody _ (by rw [hb]; omega), e5]
  · rw [show preN m + nl.size + ind.size + 2 + ky.size = preN m + (nl.size + ind.size + 2 + ky.size) by omega, inBody _ (by rw [hb]; omega), e6]
  · intro i hi1 hi2
    obtain ⟨d, rfl⟩ : ∃ d, i = preN m + (nl.size + ind.size + 1 + ky.size + 2 + d) := ⟨i - (preN m + nl.size + ind.size + 3 + ky.size), by omega⟩
    have hd : d < gapN nl := by omega
    rw [← hp, lb_right, ← hb, lb_right, lb_left (by rw [hg]; exact hd)]
    by_cases c : nl.size = 0
    · unfold gapN at hd; rw [if_pos c] at hd; omega
    · have hd0 : d = 0 := by unfold gapN at hd; rw [if_neg c] at hd; omega
      subst hd0
      unfold gap
      rw [if_neg c]
      exact .inl rfl
  · intro j hj
    rw [show preN m + nl.size + ind.size + 3 + ky.size + gapN nl + j = preN m + ((nl.size + ind.size + 1 + ky.size + 2) + (gapN nl + j)) by omega, ← hp, lb_right, ← hb, lb_right, ← hg, lb_right]
  · rw [size_add, size_add, size_add, hp, hb, hg]
    omega

/-- '[]byte(s)'. -/
theorem bytes_of (t : ByteArray) (w : World) :
    ∃ c w', (convert 9 22 (.string t)).run Try.prog w = .ok (.slice (some ⟨w.heap.size, 0, none⟩) t.size c) w' ∧ t.size ≤ c ∧ Bytes w' (some ⟨w.heap.size, 0, none⟩) t.size (lb t) ∧ Below w.heap.size w w' ∧ w'.heap.size = w.heap.size + 1 := by
  refine ⟨_, _, run_bytes_of_string (P := Try.prog) w 9 22 5 t Try.underlying9 Try.underlying22 Try.underlying5, grownCap_ge _ _ _ _, ?_, ?_, ?_⟩
  · refine .inr ⟨_, _, rfl, fun i hi => ?_⟩
    have hz : w.drew.heap.size = w.heap.size := rfl
    rw [Nat.zero_add, ← hz, World.cell?_alloc_mark]
    unfold bytesRow
    rw [Array.getElem?_append_left (by rw [Array.size_map]; exact hi), Array.getElem?_map]
    have hi' : i < t.data.size := hi
    rw [Array.getElem?_eq_getElem hi', Option.map_some]
    have := lb_eq hi
    rw [← this]
    rfl
  · exact ((Below.refl _ _).drew).alloc (Nat.le_refl _) _
  · simp

/-- 'string(b)', the cells being a string's bytes. -/
theorem str_of (s : ByteArray) (g off c : Nat) (w : World) (h : ∀ i, i < s.size → w.cell? ⟨g, off + i, none⟩ = some (.int .u8 (lb s i))) :
    (convert 22 9 (.slice (some ⟨g, off, none⟩) s.size c)).run Try.prog w = .ok (.string s) w := by
  have hr := run_convert_bytes_arg (P := Try.prog) w 22 5 Try.underlying22 Try.underlying5 g off s.size c ((List.range s.size).map (lb s)) (by simp) (fun i hi => by
    rw [h i hi]
    simp [hi]) 9 Try.underlying9
  rw [hr]
  have e : strOfNums ((List.range s.size).map (lb s)) = s := by
    apply ByteArray.ext
    unfold strOfNums
    apply Array.ext_getElem?
    intro i
    rw [List.getElem?_toArray, List.map_map]
    by_cases hi : i < s.size
    · have hi' : i < s.data.size := hi
      rw [Array.getElem?_eq_getElem hi', List.getElem?_map, List.getElem?_range hi, Option.map_some]
      congr 1
      show UInt8.ofNat (lb s i).toNat = _
      rw [← lb_eq hi]
      simp
      rfl
    · have hi' : s.data.size ≤ i := Nat.le_of_not_lt hi
      rw [Array.getElem?_eq_none hi', List.getElem?_map, List.getElem?_eq_none (by simp; omega)]
      rfl
  rw [e]

theorem allws_yes (s : ByteArray) (w : World) (hs : s.size ≤ 1048576) (ha : AllWs s) :
    Calls Try.prog 15 #[.string s] w fun e w' => e = .returned (.bool true) ∧ w = w' := by
  have HA : Hid (AllWs s) := ha
  clear ha
  go_enter Try.func15, Try.ntmps15
  go_wp2
  go_loopw [3] (fun i wr => (∃ k : Nat, k ≤ s.size ∧ i = .int .i64 k) ∧ w = wr) (fun i _ => s.size - (intOf i).toNat)
  case atStart => exact ⟨⟨0, Nat.zero_le _, rfl⟩, rfl⟩
  case round =>
    obtain ⟨⟨k, hk, rfl⟩, rfl⟩ := hrel
    by_cases hlt : k < s.size
    · have hl := lb_eq hlt
      have HW : Hid (Ws (lb s k)) := HA.out k hlt
      go_wp2_with (go_at_call 10; refine (isws_yes _ _ HW.out).mono ?_; rintro e w' ⟨rfl, rfl⟩)
      go_roundw
      case rel => exact ⟨⟨k + 1, by omega, by go_num⟩, trivial⟩
      case measure => simp [intOf]; omega
    · go_wp2
      go_ret
      exact ⟨rfl, rfl⟩

theorem allws_no (s : ByteArray) (w : World) (hs : s.size ≤ 1048576) (ha : ¬ AllWs s) :
    Calls Try.prog 15 #[.string s] w fun e w' => e = .returned (.bool false) ∧ w = w' := by
  have HA : Hid (¬ AllWs s) := ha
  clear ha
  go_enter Try.func15, Try.ntmps15
  go_wp2
  go_loopw [3] (fun i wr => (∃ k : Nat, k ≤ s.size ∧ i = .int .i64 k ∧ ∀ j, j < k → Ws (lb s j)) ∧ w = wr) (fun i _ => s.size - (intOf i).toNat)
  case atStart => exact ⟨⟨0, Nat.zero_le _, rfl, fun j hj => absurd hj (Nat.not_lt_zero j)⟩, rfl⟩
  case round =>
    obtain ⟨⟨k, hk, rfl, hj⟩, rfl⟩ := hrel
    by_cases hlt : k < s.size
    · have hl := lb_eq hlt
      by_cases hw : Ws (lb s k)
      · have HW : Hid (Ws (lb s k)) := hw
        have HJ : Hid (∀ j, j < k + 1 → Ws (lb s j)) := fun j hj' => by
          by_cases e : j = k
          · subst e; exact hw
          · exact hj j (by omega)
        clear hw hj
        go_wp2_with (go_at_call 10; refine (isws_yes _ _ HW.out).mono ?_; rintro e w' ⟨rfl, rfl⟩)
        go_roundw
        case rel => exact ⟨⟨k + 1, by omega, by go_num, HJ.out⟩, trivial⟩
        case measure => simp [intOf]; omega
      · have HW : Hid (¬ Ws (lb s k)) := hw
        clear hw hj
        go_wp2_with (go_at_call 10; refine (isws_no _ _ HW.out).mono ?_; rintro e w' ⟨rfl, rfl⟩)
        go_ret
        exact ⟨rfl, rfl⟩
    · obtain rfl : k = s.size := by omega
      exact absurd hj HA.out
end Go.Proofs.Qxb6603188a
