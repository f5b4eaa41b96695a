/-
  THE WALK OF 'FnNewMemberReadBack'.
-/
import Derived.Test.Qxb6603188aLaid
namespace Go.Proofs.Qxb6603188a
open Go.RowKit

/-- What the copies of the members leave. -/
def MPost (n : Nat) (w : World) (e : Ending) (w' : World) : Prop :=
  ∃ a c, e = .returned (.slice a n c) ∧ MCells w' a n ∧ (a = none → n = 0 ∧ c = 0) ∧ Below w.heap.size w w'

theorem mclone_any (a : Option Addr) (n c : Nat) (w : World) (hn : n ≤ 1048576) (hm : MCells w a n) (hnil : a = none → n = 0 ∧ c = 0) : Calls Try.prog 16 #[.slice a n c] w (MPost n w) := by
  cases a with
  | none =>
    obtain ⟨rfl, rfl⟩ := hnil rfl
    refine (mclone_nil w).mono ?_
    rintro e w' ⟨rfl, rfl⟩
    exact ⟨none, 0, rfl, .inl rfl, fun _ => ⟨rfl, rfl⟩, Below.refl _ _⟩
  | some x =>
    refine (mclone_some x n c w hn hm).mono ?_
    rintro e w' ⟨rfl, hr, hb⟩
    exact ⟨_, n, rfl, hr.cells, fun h => (by cases h), hb⟩

theorem shim_any (a : Option Addr) (n c : Nat) (w : World) (hn : n ≤ 1048576) (hm : MCells w a n) (hnil : a = none → n = 0 ∧ c = 0) : Calls Try.prog 18 #[.slice a n c] w (MPost n w) := by
  cases a with
  | none =>
    obtain ⟨rfl, rfl⟩ := hnil rfl
    refine (shim_nil w).mono ?_
    rintro e w' ⟨rfl, rfl⟩
    exact ⟨none, 0, rfl, .inl rfl, fun _ => ⟨rfl, rfl⟩, Below.refl _ _⟩
  | some x =>
    refine (shim_some x n c w hn hm).mono ?_
    rintro e w' ⟨rfl, hr, hb⟩
    exact ⟨_, n, rfl, hr.cells, fun h => (by cases h), hb⟩

/-- What 'ZZNewMember' leaves: a text, its places known. -/
def TPost (n : Nat) (ky vl : ByteArray) (w : World) (e : Ending) (w' : World) : Prop :=
  ∃ t q P V, e = .returned (.string t) ∧ Laid t n ky vl q P V ∧ t.size ≤ 1048600 ∧ Below w.heap.size w w'

theorem txt_small (m : Nat) (nl ind un ky vl : ByteArray) (hs : nl.size + ind.size + un.size + ky.size + vl.size ≤ 1048576) : (txt m nl ind ky vl).size ≤ 1048600 := by
  rw [txt_parts, size_add, size_add, size_add, pre_size, gap_size, body_size]
  have h1 : preN m ≤ 1 := by unfold preN; split <;> omega
  have h2 : gapN nl ≤ 1 := by unfold gapN; split <;> omega
  omega

theorem zznew_any (a : Option Addr) (n c : Nat) (le : Int) (nl ind un ky vl : ByteArray) (w : World) (hn : n ≤ 1048576) (hm : MCells w a n) (hnil : a = none → n = 0 ∧ c = 0)
    (hs : nl.size + ind.size + un.size + ky.size + vl.size ≤ 1048576) (h1 : AllWs nl) (h2 : AllWs ind) :
    Calls Try.prog 17 #[.slice a n c, .int .i64 le, .string nl, .string ind, .string un, .string ky, .string vl] w (TPost n ky vl w) := by
  cases a with
  | none =>
    obtain ⟨rfl, rfl⟩ := hnil rfl
    refine (zznew_nil le nl ind un ky vl w hs).mono ?_
    rintro e w' ⟨rfl, hb⟩
    exact ⟨_, _, _, _, rfl, laid 0 nl ind ky vl h1 h2, txt_small 0 nl ind un ky vl hs, hb⟩
  | some x =>
    refine (zznew_some x n c le nl ind un ky vl w hn hm hs).mono ?_
    rintro e w' ⟨rfl, hb⟩
    exact ⟨_, _, _, _, rfl, laid n nl ind ky vl h1 h2, txt_small n nl ind un ky vl hs, hb⟩

theorem land_eq {f : Nat → Int} {n pos p P : Nat} (h : Land f n pos p) (h1 : pos ≤ P) (h2 : P < n) (h3 : ∀ i, pos ≤ i → i < P → Ws (f i)) (h4 : ¬ Ws (f P)) : p = P := by
  obtain ⟨a, b, c, d⟩ := h
  rcases Nat.lt_trichotomy p P with k | k | k
  · exact absurd (h3 p a k) (d (by omega))
  · exact k
  · exact absurd (c P h1 k) h4

theorem land_end {f : Nat → Int} {n pos p : Nat} (h : Land f n pos p) (h1 : pos ≤ n) (h3 : ∀ i, pos ≤ i → i < n → Ws (f i)) : p = n := by
  obtain ⟨a, b, c, d⟩ := h
  by_cases k : p < n
  · exact absurd (h3 p a k) (d k)
  · omega

theorem nows_of {c : Int} (k : Int) (h : c = k) (hk : ¬ (k = 32 ∨ k = 9 ∨ k = 13 ∨ k = 10)) : ¬ Ws c := by
  subst h
  exact hk

/-- 'next' on the text, told where it lands. -/
def NPost (C p : Int) (w : World) (e : Ending) (w' : World) : Prop := e = .returned (.tuple #[.int .u8 C, .int .i64 p]) ∧ Below w.heap.size w w'

theorem znext_at (a : Option Addr) (n c : Nat) (f : Nat → Int) (pos : Nat) (pi : Int) (P : Nat) (Pi C : Int) (w : World) (hpi : pi = (pos : Int)) (hPi : Pi = (P : Int)) (hn : n ≤ 4194304) (hp : pos ≤ 9223372036854775807) (hb : Bytes w a n f)
    (h1 : pos ≤ P) (h2 : P < n) (h3 : ∀ i, pos ≤ i → i < P → Ws (f i)) (h4 : ¬ Ws (f P)) (h5 : f P = C) :
    Calls Try.prog 9 #[.slice a n c, .int .i64 pi] w (NPost C Pi w) := by
  subst hpi hPi
  refine (znext_any a n c f pos w hn hp hb).mono ?_
  rintro e w' ⟨p, hL, rfl, hbel⟩
  obtain rfl := land_eq hL h1 h2 h3 h4
  refine ⟨?_, hbel⟩
  rw [byteAt, if_pos h2, h5]

/-- Where the value begins. -/
def VPost (V : Nat) (w : World) (e : Ending) (w' : World) : Prop := ∃ C : Int, e = .returned (.tuple #[.int .u8 C, .int .i64 V]) ∧ Below w.heap.size w w'

theorem znext_val (a : Option Addr) (n c : Nat) (f : Nat → Int) (pos : Nat) (pi : Int) (V : Nat) (w : World) (hpi : pi = (pos : Int)) (hn : n ≤ 4194304) (hp : pos ≤ 9223372036854775807) (hb : Bytes w a n f)
    (h1 : pos ≤ V) (h2 : V ≤ n) (h3 : ∀ i, pos ≤ i → i < V → Ws (f i)) (h4 : V = n ∨ ¬ Ws (f V)) :
    Calls Try.prog 9 #[.slice a n c, .int .i64 pi] w (VPost V w) := by
  subst hpi
  refine (znext_any a n c f pos w hn hp hb).mono ?_
  rintro e w' ⟨p, hL, rfl, hbel⟩
  by_cases hV : V = n
  · subst hV
    obtain rfl := land_end hL h1 h3
    exact ⟨_, rfl, hbel⟩
  · obtain rfl := land_eq hL h1 (by omega) h3 (h4.resolve_left hV)
    exact ⟨_, rfl, hbel⟩

theorem Bytes.cellAt {w : World} {g n : Nat} {f : Nat → Int} (h : Bytes w (some ⟨g, 0, none⟩) n f) (i : Nat) (hi : i < n) : w.cell? ⟨g, i, none⟩ = some (.int .u8 (f i)) := by
  rcases h with h | ⟨b, off, e, hc⟩
  · omega
  · have := hc i hi
    simp only [Option.some.injEq, Addr.mk.injEq, and_true] at e
    obtain ⟨rfl, rfl⟩ := e
    rwa [Nat.zero_add] at this

theorem val_start {t : ByteArray} {m : Nat} {ky vl : ByteArray} {q P V : Nat} (h : Laid t m ky vl q P V) (hv : vl.size = 0 ∨ ¬ Ws (lb vl 0)) : V = t.size ∨ ¬ Ws (lb t V) := by
  have hs := h.size
  by_cases h0 : vl.size = 0
  · exact .inl (by omega)
  · have := h.value 0 (by omega)
    rw [Nat.add_zero] at this
    rw [this]
    exact .inr (hv.resolve_left h0)

def NoQ (s : ByteArray) (k : Nat) : Prop := ∀ j, j < k → ¬ lb s j = 34
theorem noq_step {s : ByteArray} {k : Nat} (h : NoQ s k) (h2 : ¬ lb s k = 34) : NoQ s (k + 1) := by
  intro j hj
  by_cases e : j = k
  · subst e; exact h2
  · exact h j (by omega)

set_option maxRecDepth 20000 in
set_option maxHeartbeats 4000000 in
theorem read_any (a : Option Addr) (n c : Nat) (le : Int) (nl ind un ky vl : ByteArray) (w : World) (hm : MCells w a n) (hnil : a = none → n = 0 ∧ c = 0)
    (h1 : nl.size ≤ maxLen) (h2 : ind.size ≤ maxLen) (h3 : un.size ≤ maxLen) (h4 : ky.size ≤ maxLen) (h5 : vl.size ≤ maxLen) :
    Calls Try.prog 6 #[.slice a n c, .int .i64 le, .string nl, .string ind, .string un, .string ky, .string vl] w fun e w' => e = .returned (.bool true) ∧ Below w.heap.size w w' := by
  have HM : Hid (MCells w a n) := hm
  have HN : Hid (a = none → n = 0 ∧ c = 0) := hnil
  clear hm hnil
  go_enter Try.func6, Try.ntmps6
  go_wp2_with fail
  refine (zz13_any a n c le nl ind un ky vl w HM.out h1 h2 h3 h4 h5).mono ?_
  clear h1 h2 h3 h4 h5
  rintro e w' ⟨z, rfl, hz, rfl⟩
  cases z with
  | false =>
    clear hz
    go_wp2_with fail
    go_ret
    exact ⟨rfl, Below.refl _ _⟩
  | true =>
    obtain ⟨n1, s1⟩ := hz rfl
    clear hz
    by_cases n2 : 32768 < n
    · have d1 : decide ((32768 : Int) < (n : Int)) = true := decide_eq_true (by omega)
      go_wp2_with fail
      go_ret
      exact ⟨rfl, Below.refl _ _⟩
    · have d1 : decide ((32768 : Int) < (n : Int)) = false := decide_eq_false (by omega)
      go_wp2_with fail
      refine (size14_any a n c nl ind un ky vl w HM.out (by omega) s1).mono ?_
      rintro e w' ⟨z, rfl, rfl⟩
      cases z with
      | false =>
        go_wp2_with fail
        go_ret
        exact ⟨rfl, Below.refl _ _⟩
      | true =>
        by_cases ha1 : AllWs nl
        · have HA1 : Hid (AllWs nl) := ha1
          clear ha1
          go_wp2_with fail
          refine (allws_yes nl w (by omega) HA1.out).mono ?_
          rintro e w' ⟨rfl, rfl⟩
          by_cases ha2 : AllWs ind
          · have HA2 : Hid (AllWs ind) := ha2
            clear ha2
            go_wp2_with fail
            refine (allws_yes ind w (by omega) HA2.out).mono ?_
            rintro e w' ⟨rfl, rfl⟩
            go_wp2_with fail
            go_loopw [15] (fun iv wr => (∃ k : Nat, k ≤ ky.size ∧ iv = .int .i64 k ∧ NoQ ky k) ∧ w = wr) (fun iv _ => ky.size - (intOf iv).toNat)
            case atStart => exact ⟨⟨0, Nat.zero_le _, rfl, fun j hj => absurd hj (Nat.not_lt_zero j)⟩, rfl⟩
            case round =>
              obtain ⟨⟨k, hk, rfl, hq⟩, rfl⟩ := hrel
              by_cases hlt : k < ky.size
              · have hl := lb_eq hlt
                by_cases hq34 : lb ky k = 34
                · have e1 : (lb ky k == 34) = true := by simp [hq34]
                  clear hq34 hq
                  go_wp2_with fail
                  go_ret
                  exact ⟨rfl, Below.refl _ _⟩
                · have e1 : (lb ky k == 34) = false := by simp [hq34]
                  have HQ : Hid (NoQ ky (k + 1)) := noq_step hq hq34
                  clear hq34 hq
                  go_wp2_with fail
                  go_roundw
                  case rel => exact ⟨⟨k + 1, by omega, by go_num, HQ.out⟩, trivial⟩
                  case measure => simp [intOf]; omega
              · obtain rfl : k = ky.size := by omega
                have HQ : Hid (NoQ ky ky.size) := hq
                clear hq
                by_cases v0 : vl.size = 0
                · have HV : Hid (vl.size = 0 ∨ ¬ Ws (lb vl 0)) := .inl v0
                  go_wp2_with fail
                  clear v0
                  -- MAIN
                  refine (mclone_any a n c w n1 HM.out HN.out).mono ?_
                  rintro e w1 ⟨a1, c1, rfl, hm1, hn1, hb1⟩
                  have HM1 : Hid (MCells w1 a1 n) := hm1
                  have HN1 : Hid (a1 = none → n = 0 ∧ c1 = 0) := hn1
                  have HB1 : Hid (Below w.heap.size w w1) := hb1
                  clear hm1 hn1 hb1 HM HN
                  go_wp2_with fail
                  refine (shim_any a1 n c1 w1 n1 HM1.out HN1.out).mono ?_
                  rintro e w2 ⟨a2, c2, rfl, hm2, hn2, hb2⟩
                  have HM2 : Hid (MCells w2 a2 n) := hm2
                  have HN2 : Hid (a2 = none → n = 0 ∧ c2 = 0) := hn2
                  have HB2 : Hid (Below w.heap.size w w2) := HB1.out.trans (hb2.mono HB1.out.size)
                  clear hm2 hn2 hb2 HM1 HN1 HB1
                  go_wp2_with fail
                  refine (zznew_any a2 n c2 le nl ind un ky vl w2 n1 HM2.out HN2.out s1 HA1.out HA2.out).mono ?_
                  rintro e w3 ⟨t, q, P, V, rfl, hL, ht, hb3⟩
                  have HL : Hid (Laid t n ky vl q P V) := hL
                  have HB3 : Hid (Below w.heap.size w w3) := HB2.out.trans (hb3.mono HB2.out.size)
                  obtain ⟨c4, w4, hcv, hc4, hby4, hb4, hz4⟩ := bytes_of t w3
                  have HY4 : Hid (Bytes w4 (some ⟨w3.heap.size, 0, none⟩) t.size (lb t)) := hby4
                  have HB4 : Hid (Below w.heap.size w w4) := HB3.out.trans (hb4.mono HB3.out.size)
                  obtain ⟨G, hG⟩ : ∃ G, G = w3.heap.size := ⟨_, rfl⟩
                  have p1 := hL.mid
                  have p2 := hL.size
                  have p3 : t.size ≤ 1048600 := ht
                  clear hL hb3 hby4 hb4 hz4 ht HB2 HM2 HN2 HA1 HA2 HB3
                  have p4 : V ≤ t.size := by omega
                  clear p2
                  go_wp2_with fail
                  by_cases m0 : n = 0
                  case' pos =>
                    have q0 := HL.out.bare m0
                    subst m0
                    have dn : (0 : Nat) = 0 := rfl
                    refine (znext_at _ _ _ (lb t) 0 0 P P 34 w4 rfl rfl (by omega) (by omega) HY4.out (by omega) (by omega) (fun i h1 h2 => HL.out.space i (by omega) h2) (nows_of 34 HL.out.quote (by decide)) HL.out.quote).mono ?_
                    rintro e w5 ⟨rfl, hb5⟩
                    have HB5 : Hid (Below w.heap.size w w5) := HB4.out.trans (hb5.mono HB4.out.size)
                    have HY5 : Hid (Bytes w5 (some ⟨w3.heap.size, 0, none⟩) t.size (lb t)) := HY4.out.kept hb5
                    clear hb5 HY4 HB4
                  case' neg =>
                    have dn : (0 : Int) < (n : Int) := by omega
                    have q1 := (HL.out.lead m0).1
                    have HZ : Hid (lb t 0 = 44) := (HL.out.lead m0).2
                    clear m0
                    refine (znext_at _ _ _ (lb t) 0 0 0 0 44 w4 rfl rfl (by omega) (by omega) HY4.out (by omega) (by omega) (fun i h1 h2 => by omega) (nows_of 44 HZ.out (by decide)) HZ.out).mono ?_
                    rintro e w4' ⟨rfl, hb4'⟩
                    have HB4' : Hid (Below w.heap.size w w4') := HB4.out.trans (hb4'.mono HB4.out.size)
                    have HY4' : Hid (Bytes w4' (some ⟨w3.heap.size, 0, none⟩) t.size (lb t)) := HY4.out.kept hb4'
                    clear hb4' HY4 HB4
                    go_wp2_with fail
                    refine (znext_at _ _ _ (lb t) 1 1 P P 34 w4' rfl rfl (by omega) (by omega) HY4'.out (by have := HL.out.le; omega) (by omega) (fun i h1 h2 => HL.out.space i (by omega) h2) (nows_of 34 HL.out.quote (by decide)) HL.out.quote).mono ?_
                    rintro e w5 ⟨rfl, hb5⟩
                    have HB5 : Hid (Below w.heap.size w w5) := HB4'.out.trans (hb5.mono HB4'.out.size)
                    have HY5 : Hid (Bytes w5 (some ⟨w3.heap.size, 0, none⟩) t.size (lb t)) := HY4'.out.kept hb5
                    clear hb5 HY4' HB4' HZ
                  all_goals
                    clear hcv
                    go_wp2_with fail
                    clear dn
                    go_loopw [20] (fun iv wr => (∃ k : Nat, P + 1 ≤ k ∧ k ≤ P + 1 + ky.size ∧ iv = .int .i64 k) ∧ w5 = wr) (fun iv _ => P + 1 + ky.size - (intOf iv).toNat)
                    case atStart => exact ⟨⟨P + 1, Nat.le_refl _, by omega, by go_num⟩, rfl⟩
                    case round =>
                      obtain ⟨⟨k, k1, k2, rfl⟩, rfl⟩ := hrel
                      have hkt : (k : Int) < (t.size : Int) := by omega
                      have hcell := HY5.out.cellAt k (by omega)
                      by_cases hlt : k < P + 1 + ky.size
                      · have e1 : (lb t k != 34) = true := by
                          have hk := HL.out.key (k - (P + 1)) (by omega)
                          rw [show P + 1 + (k - (P + 1)) = k by omega] at hk
                          have hq := HQ.out (k - (P + 1)) (by omega)
                          rw [← hk] at hq
                          simp [hq]
                        go_wp2_with fail
                        go_roundw
                        case rel => exact ⟨⟨k + 1, by omega, by omega, by go_num⟩, trivial⟩
                        case measure => simp [intOf]; omega
                      · have hk : k = P + 1 + ky.size := by omega
                        have e1 : (lb t k != 34) = false := by rw [hk, HL.out.quote2]; rfl
                        have hcell2 : w5.cell? ⟨w3.heap.size, k + 1, none⟩ = some (.int .u8 58) := by
                          rw [HY5.out.cellAt (k + 1) (by omega), hk, show P + 1 + ky.size + 1 = P + 2 + ky.size by omega, HL.out.colon]
                        have hkt2 : (k : Int) + 1 < (t.size : Int) := by omega
                        have hcvK : (convert 22 9 (.slice (some ⟨w3.heap.size, P + 1, none⟩) (k - (P + 1)) (c4 - (P + 1)))).run Try.prog w5 = .ok (.string ky) w5 := by
                          rw [show k - (P + 1) = ky.size by omega]
                          exact str_of ky w3.heap.size (P + 1) _ w5 (fun i hi => by rw [HY5.out.cellAt (P + 1 + i) (by omega), HL.out.key i hi])
                        have HK : Hid (k = P + 1 + ky.size) := hk
                        clear hk hlt
                        go_wp2_with fail
                        refine (znext_val _ _ _ (lb t) (k + 2) _ V w5 (by omega) (by omega) (by omega) HY5.out (by have := HK.out; omega) p4 (fun i h1 h2 => HL.out.skip i (by have := HK.out; omega) h2) (val_start HL.out HV.out)).mono ?_
                        rintro e w6 ⟨C, rfl, hb6⟩
                        have HB6 : Hid (Below w.heap.size w w6) := HB5.out.trans (hb6.mono HB5.out.size)
                        have HY6 : Hid (Bytes w6 (some ⟨w3.heap.size, 0, none⟩) t.size (lb t)) := HY5.out.kept hb6
                        clear hb6 HY5 HB5
                        have t2 : ¬ (t.size : Int) < (V : Int) := by omega
                        clear e1 hcell hcell2 hcvK hkt hkt2
                        by_cases hcc : c4 = V
                        · have hcvE : ∀ cc, (convert 22 9 (.slice (some ⟨w3.heap.size, 0, none⟩) 0 cc)).run Try.prog w6 = .ok (.string vl) w6 := fun cc => by
                            have hs := HL.out.size
                            have hv := str_of vl w3.heap.size 0 cc w6 (fun i hi => by omega)
                            rwa [show vl.size = 0 by omega] at hv
                          subst hcc
                          go_wp2_with fail
                          go_ret
                          exact ⟨rfl, HB6.out⟩
                        · have hcvV : ∀ cc, (convert 22 9 (.slice (some ⟨w3.heap.size, V, none⟩) (t.size - V) cc)).run Try.prog w6 = .ok (.string vl) w6 := fun cc => by
                            have hs := HL.out.size
                            rw [show t.size - V = vl.size by omega]
                            exact str_of vl w3.heap.size V _ w6 (fun i hi => by rw [HY6.out.cellAt (V + i) (by omega), HL.out.value i hi])
                          go_wp2_with fail
                          go_ret
                          exact ⟨rfl, HB6.out⟩
                  -- END
                · have hv0 : 0 < vl.size := by omega
                  have hl := lb_eq hv0
                  have dv : decide ((0 : Int) < (vl.size : Int)) = true := decide_eq_true (by omega)
                  by_cases vw : Ws (lb vl 0)
                  · have HW : Hid (Ws (lb vl 0)) := vw
                    clear vw v0
                    go_wp2_with fail
                    refine (isws_yes _ _ HW.out).mono ?_
                    rintro e w' ⟨rfl, rfl⟩
                    go_wp2_with fail
                    go_ret
                    exact ⟨rfl, Below.refl _ _⟩
                  · have HW : Hid (¬ Ws (lb vl 0)) := vw
                    have HV : Hid (vl.size = 0 ∨ ¬ Ws (lb vl 0)) := .inr vw
                    clear vw v0
                    go_wp2_with fail
                    refine (isws_no _ _ HW.out).mono ?_
                    rintro e w' ⟨rfl, rfl⟩
                    go_wp2_with fail
                    clear hl dv HW
                    refine (mclone_any a n c w n1 HM.out HN.out).mono ?_
                    rintro e w1 ⟨a1, c1, rfl, hm1, hn1, hb1⟩
                    have HM1 : Hid (MCells w1 a1 n) := hm1
                    have HN1 : Hid (a1 = none → n = 0 ∧ c1 = 0) := hn1
                    have HB1 : Hid (Below w.heap.size w w1) := hb1
                    clear hm1 hn1 hb1 HM HN
                    go_wp2_with fail
                    refine (shim_any a1 n c1 w1 n1 HM1.out HN1.out).mono ?_
                    rintro e w2 ⟨a2, c2, rfl, hm2, hn2, hb2⟩
                    have HM2 : Hid (MCells w2 a2 n) := hm2
                    have HN2 : Hid (a2 = none → n = 0 ∧ c2 = 0) := hn2
                    have HB2 : Hid (Below w.heap.size w w2) := HB1.out.trans (hb2.mono HB1.out.size)
                    clear hm2 hn2 hb2 HM1 HN1 HB1
                    go_wp2_with fail
                    refine (zznew_any a2 n c2 le nl ind un ky vl w2 n1 HM2.out HN2.out s1 HA1.out HA2.out).mono ?_
                    rintro e w3 ⟨t, q, P, V, rfl, hL, ht, hb3⟩
                    have HL : Hid (Laid t n ky vl q P V) := hL
                    have HB3 : Hid (Below w.heap.size w w3) := HB2.out.trans (hb3.mono HB2.out.size)
                    obtain ⟨c4, w4, hcv, hc4, hby4, hb4, hz4⟩ := bytes_of t w3
                    have HY4 : Hid (Bytes w4 (some ⟨w3.heap.size, 0, none⟩) t.size (lb t)) := hby4
                    have HB4 : Hid (Below w.heap.size w w4) := HB3.out.trans (hb4.mono HB3.out.size)
                    obtain ⟨G, hG⟩ : ∃ G, G = w3.heap.size := ⟨_, rfl⟩
                    have p1 := hL.mid
                    have p2 := hL.size
                    have p3 : t.size ≤ 1048600 := ht
                    clear hL hb3 hby4 hb4 hz4 ht HB2 HM2 HN2 HA1 HA2 HB3
                    have p4 : V ≤ t.size := by omega
                    clear p2
                    go_wp2_with fail
                    by_cases m0 : n = 0
                    case' pos =>
                      have q0 := HL.out.bare m0
                      subst m0
                      have dn : (0 : Nat) = 0 := rfl
                      refine (znext_at _ _ _ (lb t) 0 0 P P 34 w4 rfl rfl (by omega) (by omega) HY4.out (by omega) (by omega) (fun i h1 h2 => HL.out.space i (by omega) h2) (nows_of 34 HL.out.quote (by decide)) HL.out.quote).mono ?_
                      rintro e w5 ⟨rfl, hb5⟩
                      have HB5 : Hid (Below w.heap.size w w5) := HB4.out.trans (hb5.mono HB4.out.size)
                      have HY5 : Hid (Bytes w5 (some ⟨w3.heap.size, 0, none⟩) t.size (lb t)) := HY4.out.kept hb5
                      clear hb5 HY4 HB4
                    case' neg =>
                      have dn : (0 : Int) < (n : Int) := by omega
                      have q1 := (HL.out.lead m0).1
                      have HZ : Hid (lb t 0 = 44) := (HL.out.lead m0).2
                      clear m0
                      refine (znext_at _ _ _ (lb t) 0 0 0 0 44 w4 rfl rfl (by omega) (by omega) HY4.out (by omega) (by omega) (fun i h1 h2 => by omega) (nows_of 44 HZ.out (by decide)) HZ.out).mono ?_
                      rintro e w4' ⟨rfl, hb4'⟩
                      have HB4' : Hid (Below w.heap.size w w4') := HB4.out.trans (hb4'.mono HB4.out.size)
                      have HY4' : Hid (Bytes w4' (some ⟨w3.heap.size, 0, none⟩) t.size (lb t)) := HY4.out.kept hb4'
                      clear hb4' HY4 HB4
                      go_wp2_with fail
                      refine (znext_at _ _ _ (lb t) 1 1 P P 34 w4' rfl rfl (by omega) (by omega) HY4'.out (by have := HL.out.le; omega) (by omega) (fun i h1 h2 => HL.out.space i (by omega) h2) (nows_of 34 HL.out.quote (by decide)) HL.out.quote).mono ?_
                      rintro e w5 ⟨rfl, hb5⟩
                      have HB5 : Hid (Below w.heap.size w w5) := HB4'.out.trans (hb5.mono HB4'.out.size)
                      have HY5 : Hid (Bytes w5 (some ⟨w3.heap.size, 0, none⟩) t.size (lb t)) := HY4'.out.kept hb5
                      clear hb5 HY4' HB4' HZ
                    all_goals
                      clear hcv
                      go_wp2_with fail
                      clear dn
                      go_loopw [20] (fun iv wr => (∃ k : Nat, P + 1 ≤ k ∧ k ≤ P + 1 + ky.size ∧ iv = .int .i64 k) ∧ w5 = wr) (fun iv _ => P + 1 + ky.size - (intOf iv).toNat)
                      case atStart => exact ⟨⟨P + 1, Nat.le_refl _, by omega, by go_num⟩, rfl⟩
                      case round =>
                        obtain ⟨⟨k, k1, k2, rfl⟩, rfl⟩ := hrel
                        have hkt : (k : Int) < (t.size : Int) := by omega
                        have hcell := HY5.out.cellAt k (by omega)
                        by_cases hlt : k < P + 1 + ky.size
                        · have e1 : (lb t k != 34) = true := by
                            have hk := HL.out.key (k - (P + 1)) (by omega)
                            rw [show P + 1 + (k - (P + 1)) = k by omega] at hk
                            have hq := HQ.out (k - (P + 1)) (by omega)
                            rw [← hk] at hq
                            simp [hq]
                          go_wp2_with fail
                          go_roundw
                          case rel => exact ⟨⟨k + 1, by omega, by omega, by go_num⟩, trivial⟩
                          case measure => simp [intOf]; omega
                        · have hk : k = P + 1 + ky.size := by omega
                          have e1 : (lb t k != 34) = false := by rw [hk, HL.out.quote2]; rfl
                          have hcell2 : w5.cell? ⟨w3.heap.size, k + 1, none⟩ = some (.int .u8 58) := by
                            rw [HY5.out.cellAt (k + 1) (by omega), hk, show P + 1 + ky.size + 1 = P + 2 + ky.size by omega, HL.out.colon]
                          have hkt2 : (k : Int) + 1 < (t.size : Int) := by omega
                          have hcvK : (convert 22 9 (.slice (some ⟨w3.heap.size, P + 1, none⟩) (k - (P + 1)) (c4 - (P + 1)))).run Try.prog w5 = .ok (.string ky) w5 := by
                            rw [show k - (P + 1) = ky.size by omega]
                            exact str_of ky w3.heap.size (P + 1) _ w5 (fun i hi => by rw [HY5.out.cellAt (P + 1 + i) (by omega), HL.out.key i hi])
                          have HK : Hid (k = P + 1 + ky.size) := hk
                          clear hk hlt
                          go_wp2_with fail
                          refine (znext_val _ _ _ (lb t) (k + 2) _ V w5 (by omega) (by omega) (by omega) HY5.out (by have := HK.out; omega) p4 (fun i h1 h2 => HL.out.skip i (by have := HK.out; omega) h2) (val_start HL.out HV.out)).mono ?_
                          rintro e w6 ⟨C, rfl, hb6⟩
                          have HB6 : Hid (Below w.heap.size w w6) := HB5.out.trans (hb6.mono HB5.out.size)
                          have HY6 : Hid (Bytes w6 (some ⟨w3.heap.size, 0, none⟩) t.size (lb t)) := HY5.out.kept hb6
                          clear hb6 HY5 HB5
                          have t2 : ¬ (t.size : Int) < (V : Int) := by omega
                          clear e1 hcell hcell2 hcvK hkt hkt2
                          by_cases hcc : c4 = V
                          · have hcvE : ∀ cc, (convert 22 9 (.slice (some ⟨w3.heap.size, 0, none⟩) 0 cc)).run Try.prog w6 = .ok (.string vl) w6 := fun cc => by
                              have hs := HL.out.size
                              have hv := str_of vl w3.heap.size 0 cc w6 (fun i hi => by omega)
                              rwa [show vl.size = 0 by omega] at hv
                            subst hcc
                            go_wp2_with fail
                            go_ret
                            exact ⟨rfl, HB6.out⟩
                          · have hcvV : ∀ cc, (convert 22 9 (.slice (some ⟨w3.heap.size, V, none⟩) (t.size - V) cc)).run Try.prog w6 = .ok (.string vl) w6 := fun cc => by
                              have hs := HL.out.size
                              rw [show t.size - V = vl.size by omega]
                              exact str_of vl w3.heap.size V _ w6 (fun i hi => by rw [HY6.out.cellAt (V + i) (by omega), HL.out.value i hi])
                            go_wp2_with fail
                            go_ret
                            exact ⟨rfl, HB6.out⟩
          · have HA2 : Hid (¬ AllWs ind) := ha2
            clear ha2
            go_wp2_with fail
            refine (allws_no ind w (by omega) HA2.out).mono ?_
            rintro e w' ⟨rfl, rfl⟩
            go_wp2_with fail
            go_ret
            exact ⟨rfl, Below.refl _ _⟩
        · have HA1 : Hid (¬ AllWs nl) := ha1
          clear ha1
          go_wp2_with fail
          refine (allws_no nl w (by omega) HA1.out).mono ?_
          rintro e w' ⟨rfl, rfl⟩
          go_wp2_with fail
          go_ret
          exact ⟨rfl, Below.refl _ _⟩
end Go.Proofs.Qxb6603188a
