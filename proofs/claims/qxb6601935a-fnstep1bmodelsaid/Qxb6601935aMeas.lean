/-
  The walks of consonant and measure: what they compute; a stem's measure is at most half its length.
-/
import Derived.Test.Qxb6601935aBase
namespace Go.Proofs.Qxb6601935a
open Go.RowKit
set_option linter.unusedVariables false

/-- a, e, i, o, u -/
def isV (c : Int) : Bool := c == 97 || c == 101 || c == 105 || c == 111 || c == 117
/-- Is the letter at i a consonant? -/
def consB (zs : List Int) : Nat → Bool
  | 0 => !isV (nth zs 0)
  | i + 1 => if isV (nth zs (i + 1)) then false else if nth zs (i + 1) = 121 then !consB zs i else true
/-- How often a vowel is followed by a consonant, up to the letter k. -/
def measTo (zs : List Int) : Nat → Nat
  | 0 => 0
  | k + 1 => measTo zs k + if consB zs (k + 1) && !consB zs k then 1 else 0
def meas (zs : List Int) : Nat := measTo zs (zs.length - 1)

theorem measTo_half (zs : List Int) : ∀ k, 2 * measTo zs k + (if consB zs k then 0 else 1) ≤ k + 1
  | 0 => by simp [measTo]; split <;> omega
  | k + 1 => by
    have ih := measTo_half zs k
    simp only [measTo]
    cases h1 : consB zs k <;> cases h2 : consB zs (k + 1) <;> simp [h1] at ih ⊢ <;> omega
theorem meas_half (zs : List Int) : 2 * meas zs ≤ zs.length := by
  unfold meas
  by_cases h : zs.length = 0
  · rw [h]; simp [measTo]
  · have := measTo_half zs (zs.length - 1)
    omega
theorem measTo_le (zs : List Int) (k : Nat) : measTo zs k ≤ k + 1 := by
  have := measTo_half zs k
  omega

theorem isV_cases (v : Int) : (v = 97 ∨ v = 101 ∨ v = 105 ∨ v = 111 ∨ v = 117) ∧ isV v = true ∨ isV v = false ∧ (v == 97) = false ∧ (v == 101) = false ∧ (v == 105) = false ∧ (v == 111) = false ∧ (v == 117) = false := by
  by_cases h : v = 97 ∨ v = 101 ∨ v = 105 ∨ v = 111 ∨ v = 117
  · left
    refine ⟨h, ?_⟩
    rcases h with h | h | h | h | h <;> subst h <;> rfl
  · right
    have h1 : (v == 97) = false := by simp; omega
    have h2 : (v == 101) = false := by simp; omega
    have h3 : (v == 105) = false := by simp; omega
    have h4 : (v == 111) = false := by simp; omega
    have h5 : (v == 117) = false := by simp; omega
    exact ⟨by simp [isV, h1, h2, h3, h4, h5], h1, h2, h3, h4, h5⟩

set_option maxHeartbeats 1000000 in
theorem cons_any (b off n c : Nat) (zs : List Int) (hl : zs.length = n) (hn : n ≤ 1048576) : ∀ (i : Nat) (w : World), i < n → Row w (some ⟨b, off, none⟩) zs →
    Calls Try.prog 44 #[.slice (some ⟨b, off, none⟩) n c, .int .i64 (i : Int)] w fun e w' => e = .returned (.bool (consB zs i)) ∧ w = w' := by
  intro i
  induction i with
  | zero =>
    intro w hi ha
    obtain ⟨b', off', hx, _, hc⟩ := ha 0 (by omega)
    simp only [Option.some.injEq, Addr.mk.injEq, and_true] at hx
    obtain ⟨rfl, rfl⟩ := hx
    have e : consB zs 0 = !isV (nth zs 0) := rfl
    rw [e]
    clear ha e
    rw [Nat.add_zero] at hc
    generalize nth zs 0 = v at hc
    rcases isV_cases v with ⟨hv, h⟩ | ⟨h, h1, h2, h3, h4, h5⟩
    · rw [h]
      rcases hv with rfl | rfl | rfl | rfl | rfl <;>
      · clear h
        go_enter Try.func44, Try.ntmps44
        go_wp2_with fail
        go_ret
        exact ⟨rfl, rfl⟩
    · rw [h]
      clear h
      by_cases hy : v = 121
      · subst hy
        clear h1 h2 h3 h4 h5
        go_enter Try.func44, Try.ntmps44
        go_wp2_with fail
        go_ret
        exact ⟨rfl, rfl⟩
      · have h6 : (v == 121) = false := by simpa using hy
        clear hy
        go_enter Try.func44, Try.ntmps44
        go_wp2_with fail
        go_ret
        exact ⟨rfl, rfl⟩
  | succ i ih =>
    intro w hi ha
    obtain ⟨b', off', hx, _, hc⟩ := ha (i + 1) (by omega)
    simp only [Option.some.injEq, Addr.mk.injEq, and_true] at hx
    obtain ⟨rfl, rfl⟩ := hx
    have IH : Hid _ := ih w (by omega) ha
    have e : consB zs (i + 1) = if isV (nth zs (i + 1)) then false else if nth zs (i + 1) = 121 then !consB zs i else true := rfl
    rw [e]
    clear ha e ih
    generalize nth zs (i + 1) = v at hc
    rcases isV_cases v with ⟨hv, h⟩ | ⟨h, h1, h2, h3, h4, h5⟩
    · rw [h, if_pos rfl]
      rcases hv with rfl | rfl | rfl | rfl | rfl <;>
      · clear h IH
        go_enter Try.func44, Try.ntmps44
        go_wp2_with fail
        go_ret
        exact ⟨rfl, rfl⟩
    · rw [h, if_neg (by simp)]
      clear h
      by_cases hy : v = 121
      · rw [if_pos hy]
        subst hy
        clear h1 h2 h3 h4 h5
        go_enter Try.func44, Try.ntmps44
        go_wp2_with fail
        refine Calls.mono IH.out ?_
        rintro e w' ⟨rfl, rfl⟩
        go_wp2_with fail
        go_ret
        exact ⟨rfl, rfl⟩
      · have h6 : (v == 121) = false := by simpa using hy
        rw [if_neg hy]
        clear hy IH
        go_enter Try.func44, Try.ntmps44
        go_wp2_with fail
        go_ret
        exact ⟨rfl, rfl⟩

set_option maxHeartbeats 400000 in
theorem meas_any (b off n c : Nat) (zs : List Int) (hl : zs.length = n) (hn : n ≤ 1048576) (w : World) (ha : Row w (some ⟨b, off, none⟩) zs) :
    Calls Try.prog 40 #[.slice (some ⟨b, off, none⟩) n c] w fun e w' => e = .returned (.int .i64 (meas zs : Int)) ∧ w = w' := by
  have C : Hid (∀ i, i < n → Calls Try.prog 44 #[.slice (some ⟨b, off, none⟩) n c, .int .i64 (i : Int)] w fun e w' => e = .returned (.bool (consB zs i)) ∧ w = w') := fun i hi => cons_any b off n c zs hl hn i w hi ha
  clear ha
  go_enter Try.func40, Try.ntmps40
  go_wp2
  go_loop [3, 4] (fun m i => ∃ k : Nat, (k + 1 ≤ n ∨ k = 0) ∧ i = .int .i64 ((k + 1 : Nat) : Int) ∧ m = .int .i64 (measTo zs k : Int)) (fun _ i => n - (intOf i).toNat)
  case atStart => exact ⟨0, .inr rfl, rfl, rfl⟩
  case round =>
    obtain ⟨k, hk, rfl, rfl⟩ := hrel
    have hm := measTo_le zs k
    have hk' : k ≤ n := by omega
    have HK : Hid _ := hk
    clear hk
    have e1 : Hid ((k : Int) + 1 = ((k + 1 : Nat) : Int)) := by unfold Hid; omega
    by_cases hlt : k + 1 < n
    · have hm2 : measTo zs (k + 1) = measTo zs k + if consB zs (k + 1) && !consB zs k then 1 else 0 := rfl
      have HM : Hid _ := hm2
      clear hm2
      go_wp2_with fail
      rw [e1.out]
      refine Calls.mono (C.out (k + 1) hlt) ?_
      rintro e w' ⟨rfl, rfl⟩
      cases h1 : consB zs (k + 1) with
      | false =>
        have hs : measTo zs (k + 1) = measTo zs k := by rw [HM.out, h1]; simp
        have HS : Hid _ := hs
        clear hs h1
        go_wp2_with fail
        go_round
        case rel => exact ⟨k + 1, .inl (by omega), by go_num, by rw [HS.out]⟩
        case measure => simp [intOf]; omega
      | true =>
        go_wp2_with fail
        refine Calls.mono (C.out k (by omega)) ?_
        rintro e w' ⟨rfl, rfl⟩
        cases h2 : consB zs k with
        | true =>
          have hs : measTo zs (k + 1) = measTo zs k := by rw [HM.out, h1, h2]; simp
          have HS : Hid _ := hs
          clear hs h1 h2
          go_wp2_with fail
          go_round
          case rel => exact ⟨k + 1, .inl (by omega), by go_num, by rw [HS.out]⟩
          case measure => simp [intOf]; omega
        | false =>
          have hs : measTo zs (k + 1) = measTo zs k + 1 := by rw [HM.out, h1, h2]; simp
          have HS : Hid _ := hs
          clear hs h1 h2
          go_wp2_with fail
          go_round
          case rel => exact ⟨k + 1, .inl (by omega), by go_num, by rw [HS.out]; go_num⟩
          case measure => simp [intOf]; omega
    · have hf : meas zs = measTo zs k := by
        have := HK.out
        unfold meas
        congr 1
        omega
      have HF : Hid _ := hf
      clear hf
      go_wp2
      go_ret
      exact ⟨by rw [HF.out]; rfl, rfl⟩
end Go.Proofs.Qxb6601935a
