/-
  The walks of hasVowel, tb1HasVowel, doubleConsonant, shortEnd.
-/
import Derived.Test.Qxb6601935aVow
namespace Go.Proofs.Qxb6601935a
open Go.RowKit
set_option linter.unusedVariables false

/-- Is there a vowel among the first k letters? -/
def anyTo (zs : List Int) : Nat → Bool
  | 0 => false
  | k + 1 => anyTo zs k || !consB zs k
def hasV (zs : List Int) : Bool := anyTo zs zs.length
theorem anyTo_yes (zs : List Int) (j : Nat) (h : consB zs j = false) : ∀ k, j < k → anyTo zs k = true
  | 0, hk => by omega
  | k + 1, hk => by
    simp only [anyTo]
    rcases Nat.lt_or_ge j k with h1 | h1
    · rw [anyTo_yes zs j h k h1]; rfl
    · obtain rfl : j = k := by omega
      rw [h]; simp
/-- Two of one consonant at the end. -/
def dblB (zs : List Int) : Bool := decide (2 ≤ zs.length) && (nth zs (zs.length - 1) == nth zs (zs.length - 2)) && consB zs (zs.length - 1)
/-- A consonant, a vowel, a consonant other than w, x and y at the end. -/
def shortB (zs : List Int) : Bool := decide (3 ≤ zs.length) && consB zs (zs.length - 3) && !consB zs (zs.length - 2) && consB zs (zs.length - 1) && !(nth zs (zs.length - 1) == 119) && !(nth zs (zs.length - 1) == 120) && !(nth zs (zs.length - 1) == 121)

set_option maxHeartbeats 400000 in
theorem hasv_any (b off n c : Nat) (zs : List Int) (hl : zs.length = n) (hn : n ≤ 1048576) (w : World) (ha : Row w (some ⟨b, off, none⟩) zs) :
    Calls Try.prog 41 #[.slice (some ⟨b, off, none⟩) n c] w fun e w' => e = .returned (.bool (hasV zs)) ∧ w = w' := by
  have C : Hid (∀ i, i < n → Calls Try.prog 44 #[.slice (some ⟨b, off, none⟩) n c, .int .i64 (i : Int)] w fun e w' => e = .returned (.bool (consB zs i)) ∧ w = w') := fun i hi => cons_any b off n c zs hl hn i w hi ha
  clear ha
  go_enter Try.func41, Try.ntmps41
  go_wp2
  go_loop [6] (fun i => ∃ k : Nat, k ≤ n ∧ i = .int .i64 k ∧ anyTo zs k = false) (fun i => n - (intOf i).toNat)
  case atStart => exact ⟨0, by omega, rfl, rfl⟩
  case round =>
    obtain ⟨k, hk, rfl, hno⟩ := hrel
    have HN : Hid _ := hno
    clear hno
    by_cases hlt : k < n
    · cases h1 : consB zs k with
      | true =>
        have HN2 : Hid (anyTo zs (k + 1) = false) := by unfold Hid; simp [anyTo, HN.out, h1]
        have hc := C.out k hlt
        rw [h1] at hc
        have HC : Hid _ := hc
        clear hc h1
        go_wp2_with fail
        refine Calls.mono HC.out ?_
        rintro e w' ⟨rfl, rfl⟩
        go_wp2_with fail
        go_round
        case rel => exact ⟨k + 1, by omega, by go_num, HN2.out⟩
        case measure => simp [intOf]; omega
      | false =>
        have hf : hasV zs = true := anyTo_yes zs k h1 _ (by omega)
        have HF : Hid _ := hf
        have hc := C.out k hlt
        rw [h1] at hc
        have HC : Hid _ := hc
        clear hc h1 hf
        go_wp2_with fail
        refine Calls.mono HC.out ?_
        rintro e w' ⟨rfl, rfl⟩
        go_wp2_with fail
        go_ret
        exact ⟨ret_bool HF.out.symm, rfl⟩
    · obtain rfl : k = n := by omega
      have hf : hasV zs = false := by rw [hasV, hl]; exact HN.out
      have HF : Hid _ := hf
      clear hf
      go_wp2_with fail
      go_ret
      exact ⟨ret_bool HF.out.symm, rfl⟩

set_option maxHeartbeats 400000 in
theorem mhasv_any (a : Option Addr) (n c : Nat) (zs : List Int) (hl : zs.length = n) (hn : n ≤ 1048576) (w : World) (ha : Row w a zs) :
    Calls Try.prog 33 #[.slice a n c] w fun e w' => e = .returned (.bool (hasV zs)) ∧ w' = w.alloc (.cells (vfill zs n n) 4) := by
  have V : Hid _ := vow_any a n c zs hl hn w ha
  have D : Hid (∀ j, j < n → (vfill zs n n)[j]? = some (.bool (!consB zs j))) := fun j hj => vfill_done zs n n j hj
  clear ha
  go_enter Try.func33, Try.ntmps33
  go_wp2_with fail
  refine Calls.mono V.out ?_
  rintro e w' ⟨rfl, rfl⟩
  go_wp2_with fail
  go_loop [4] (fun i => ∃ k : Nat, k ≤ n ∧ i = .int .i64 k ∧ anyTo zs k = false) (fun i => n - (intOf i).toNat)
  case atStart => exact ⟨0, by omega, rfl, rfl⟩
  case round =>
    obtain ⟨k, hk, rfl, hno⟩ := hrel
    have HN : Hid _ := hno
    clear hno
    by_cases hlt : k < n
    · have d1 := D.out k hlt
      have hlt' : (k : Int) < (n : Int) := by omega
      cases h1 : consB zs k with
      | true =>
        have HN2 : Hid (anyTo zs (k + 1) = false) := by unfold Hid; simp [anyTo, HN.out, h1]
        rw [h1] at d1
        clear h1
        go_wp2_with fail
        go_round
        case rel => exact ⟨k + 1, by omega, by go_num, HN2.out⟩
        case measure => simp [intOf]; omega
      | false =>
        have hf : hasV zs = true := anyTo_yes zs k h1 _ (by omega)
        have HF : Hid _ := hf
        rw [h1] at d1
        clear h1 hf
        go_wp2_with fail
        go_ret
        exact ⟨ret_bool HF.out.symm, rfl⟩
    · obtain rfl : k = n := by omega
      have hf : hasV zs = false := by rw [hasV, hl]; exact HN.out
      have HF : Hid _ := hf
      clear hf
      go_wp2_with fail
      go_ret
      exact ⟨ret_bool HF.out.symm, rfl⟩

set_option maxHeartbeats 1000000 in
theorem dbl_any (b off n c : Nat) (zs : List Int) (hl : zs.length = n) (hn : n ≤ 1048576) (w : World) (ha : Row w (some ⟨b, off, none⟩) zs) :
    Calls Try.prog 42 #[.slice (some ⟨b, off, none⟩) n c] w fun e w' => e = .returned (.bool (dblB zs)) ∧ ∃ nq, w' = w.drewN nq := by
  have C : Hid (∀ (i : Nat) (W : World), Below w.heap.size w W → i < n → Calls Try.prog 44 #[.slice (some ⟨b, off, none⟩) n c, .int .i64 (i : Int)] W fun e w' => e = .returned (.bool (consB zs i)) ∧ W = w') := fun i W hW hi => cons_any b off n c zs hl hn i W hi (Row.below ha hW)
  by_cases h2 : n < 2
  · have hf : dblB zs = false := by simp [dblB, hl]; intros; omega
    have HF : Hid _ := hf
    have hd : decide ((2 : Int) ≤ (n : Int)) = false := by simp; omega
    clear ha hf
    go_enter Try.func42, Try.ntmps42
    go_wp2
    go_quiet (fail)
    go_wp2
    go_ret
    exact ⟨ret_bool HF.out.symm, _, rfl⟩
  obtain ⟨b1, o1, hx, _, c1⟩ := ha (n - 1) (by omega)
  simp only [Option.some.injEq, Addr.mk.injEq, and_true] at hx
  obtain ⟨rfl, rfl⟩ := hx
  obtain ⟨b2, o2, hx, _, c2⟩ := ha (n - 2) (by omega)
  simp only [Option.some.injEq, Addr.mk.injEq, and_true] at hx
  obtain ⟨rfl, rfl⟩ := hx
  have hd : decide ((2 : Int) ≤ (n : Int)) = true := by simp; omega
  have hb1 : (0 : Int) ≤ (n : Int) - 1 := by omega
  have hb2 : (0 : Int) ≤ (n : Int) - 2 := by omega
  have hb3 : (n : Int) - 1 < (n : Int) := by omega
  have hb4 : (n : Int) - 2 < (n : Int) := by omega
  have h22 : 2 ≤ n := by omega
  have hF : dblB zs = ((nth zs (n - 1) == nth zs (n - 2)) && consB zs (n - 1)) := by simp [dblB, hl, h22]
  have e1 : Hid ((n : Int) - 1 = ((n - 1 : Nat) : Int)) := by unfold Hid; omega
  generalize nth zs (n - 1) = v1 at *
  generalize nth zs (n - 2) = v2 at *
  clear ha
  cases he : (v1 == v2) with
  | false =>
    have HF : Hid (dblB zs = false) := by unfold Hid; rw [hF, he]; rfl
    clear hF
    go_enter Try.func42, Try.ntmps42
    go_wp2
    go_quiet (fail)
    go_wp2
    go_ret
    exact ⟨ret_bool HF.out.symm, _, rfl⟩
  | true =>
    have HF : Hid (dblB zs = consB zs (n - 1)) := by unfold Hid; rw [hF, he]; rfl
    clear hF
    go_enter Try.func42, Try.ntmps42
    go_wp2
    go_quiet ((go_at_call 44; rw [e1.out]; exact Calls.mono (C.out (n - 1) _ (below_drewN (Below.refl _ _) _) (by omega)) (fun e w'' h => ⟨h.1, _, h.2.symm⟩)))
    go_wp2
    go_ret
    exact ⟨ret_bool HF.out.symm, _, rfl⟩

set_option maxHeartbeats 1000000 in
theorem short_any (b off n c : Nat) (zs : List Int) (hl : zs.length = n) (hn : n ≤ 1048576) (w : World) (ha : Row w (some ⟨b, off, none⟩) zs) :
    Calls Try.prog 43 #[.slice (some ⟨b, off, none⟩) n c] w fun e w' => e = .returned (.bool (shortB zs)) ∧ w = w' := by
  by_cases h2 : n < 3
  · have hf : shortB zs = false := by have h22 : ¬ 3 ≤ n := by omega
                                      simp [shortB, hl, h22]
    have HF : Hid _ := hf
    clear ha hf
    go_enter Try.func43, Try.ntmps43
    go_wp2_with fail
    go_ret
    exact ⟨ret_bool HF.out.symm, rfl⟩
  have e3 : (n : Int) - 3 = ((n - 3 : Nat) : Int) := by omega
  have e2 : (n : Int) - 2 = ((n - 2 : Nat) : Int) := by omega
  have e1 : (n : Int) - 1 = ((n - 1 : Nat) : Int) := by omega
  have C3 := cons_any b off n c zs hl hn (n - 3) w (by omega) ha
  have C2 := cons_any b off n c zs hl hn (n - 2) w (by omega) ha
  have C1 := cons_any b off n c zs hl hn (n - 1) w (by omega) ha
  rw [← e3] at C3
  rw [← e2] at C2
  rw [← e1] at C1
  have h22 : 3 ≤ n := by omega
  have hF : shortB zs = (consB zs (n - 3) && !consB zs (n - 2) && consB zs (n - 1) && !(nth zs (n - 1) == 119) && !(nth zs (n - 1) == 120) && !(nth zs (n - 1) == 121)) := by simp [shortB, hl, h22]
  obtain ⟨b1, o1, hx, _, c1⟩ := ha (n - 1) (by omega)
  simp only [Option.some.injEq, Addr.mk.injEq, and_true] at hx
  obtain ⟨rfl, rfl⟩ := hx
  have hb1 : (0 : Int) ≤ (n : Int) - 1 := by omega
  have hb3 : (n : Int) - 1 < (n : Int) := by omega
  generalize nth zs (n - 1) = v1 at *
  generalize consB zs (n - 3) = k3 at *
  generalize consB zs (n - 2) = k2 at *
  generalize consB zs (n - 1) = k1 at *
  clear ha e3 e2 e1
  have C3' : Hid _ := C3
  have C2' : Hid _ := C2
  have C1' : Hid _ := C1
  have hF' : Hid _ := hF
  clear C3 C2 C1 hF
  cases k3 with
  | false =>
    go_enter Try.func43, Try.ntmps43
    go_wp2_with fail
    refine Calls.mono C3'.out ?_
    rintro e w' ⟨rfl, rfl⟩
    go_wp2_with fail
    go_ret
    exact ⟨ret_bool hF'.out.symm, rfl⟩
  | true =>
    cases k2 with
    | true =>
      go_enter Try.func43, Try.ntmps43
      go_wp2_with fail
      refine Calls.mono C3'.out ?_
      rintro e w' ⟨rfl, rfl⟩
      go_wp2_with fail
      refine Calls.mono C2'.out ?_
      rintro e w' ⟨rfl, rfl⟩
      go_wp2_with fail
      go_ret
      exact ⟨ret_bool hF'.out.symm, rfl⟩
    | false =>
      cases k1 with
      | false =>
        go_enter Try.func43, Try.ntmps43
        go_wp2_with fail
        refine Calls.mono C3'.out ?_
        rintro e w' ⟨rfl, rfl⟩
        go_wp2_with fail
        refine Calls.mono C2'.out ?_
        rintro e w' ⟨rfl, rfl⟩
        go_wp2_with fail
        refine Calls.mono C1'.out ?_
        rintro e w' ⟨rfl, rfl⟩
        go_wp2_with fail
        go_ret
        exact ⟨ret_bool hF'.out.symm, rfl⟩
      | true =>
        by_cases hv : v1 = 119 ∨ v1 = 120 ∨ v1 = 121
        · rcases hv with rfl | rfl | rfl <;> (
            go_enter Try.func43, Try.ntmps43
            go_wp2_with fail
            refine Calls.mono C3'.out ?_
            rintro e w' ⟨rfl, rfl⟩
            go_wp2_with fail
            refine Calls.mono C2'.out ?_
            rintro e w' ⟨rfl, rfl⟩
            go_wp2_with fail
            refine Calls.mono C1'.out ?_
            rintro e w' ⟨rfl, rfl⟩
            go_wp2_with fail
            go_ret
            exact ⟨ret_bool hF'.out.symm, rfl⟩)
        · have m119 : (v1 == 119) = false := by simp; omega
          have m120 : (v1 == 120) = false := by simp; omega
          have m121 : (v1 == 121) = false := by simp; omega
          have n119 : (v1 != 119) = true := by simp; omega
          have n120 : (v1 != 120) = true := by simp; omega
          have n121 : (v1 != 121) = true := by simp; omega
          unfold Hid at hF'
          rw [m119, m120, m121] at hF'
          have HF' : Hid _ := hF'
          clear hF' hv
          go_enter Try.func43, Try.ntmps43
          go_wp2_with fail
          refine Calls.mono C3'.out ?_
          rintro e w' ⟨rfl, rfl⟩
          go_wp2_with fail
          refine Calls.mono C2'.out ?_
          rintro e w' ⟨rfl, rfl⟩
          go_wp2_with fail
          refine Calls.mono C1'.out ?_
          rintro e w' ⟨rfl, rfl⟩
          go_wp2_with fail
          go_ret
          exact ⟨ret_bool HF'.out.symm, rfl⟩
end Go.Proofs.Qxb6601935a
