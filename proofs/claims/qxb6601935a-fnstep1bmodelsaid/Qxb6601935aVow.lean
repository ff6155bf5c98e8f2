/-
  The walks of tb1Vowels, tb1M and tb1Rest.
-/
import Derived.Test.Qxb6601935aMeas
import Derived.Test.Qxb6601935aTab
namespace Go.Proofs.Qxb6601935a
open Go.RowKit
set_option linter.unusedVariables false

theorem Try.info4 : (Try.prog.info? 4).map (fun i => (i.zero, i.size, i.bytes)) = some (some (.bool false), 1, 1) := by kernel_rfl

/-- n bools: the first k tell whether the letter is a vowel, the others are false. -/
def vfill (zs : List Int) (n k : Nat) : Array Value := ((List.range k).map (fun j => Value.bool (!consB zs j)) ++ List.replicate (n - k) (Value.bool false)).toArray
theorem vfill_zero (zs : List Int) (n : Nat) : madeCells (Value.bool false).cells (n * 1) = vfill zs n 0 := by
  apply Array.ext'
  have := toList_madeCells_one (Value.bool false) (n * 1)
  simp only [Value.cells] at this ⊢
  rw [this]
  simp [vfill]
theorem vfill_get (zs : List Int) (n k : Nat) (h : k < n) : (vfill zs n k)[k]? = some (.bool false) := by
  simp only [vfill, List.getElem?_toArray]
  rw [List.getElem?_append_right (by simp), List.getElem?_replicate, if_pos (by simp; omega)]
theorem vfill_done (zs : List Int) (n k j : Nat) (h : j < k) : (vfill zs n k)[j]? = some (.bool (!consB zs j)) := by
  simp only [vfill, List.getElem?_toArray]
  rw [List.getElem?_append_left (by simpa using h)]
  simp [h]
theorem vfill_set (zs : List Int) (n k : Nat) (h : k < n) : (vfill zs n k).setIfInBounds k (.bool (!consB zs k)) = vfill zs n (k + 1) := by
  apply Array.ext'
  simp only [vfill, Array.toList_setIfInBounds]
  have e : n - k = n - (k + 1) + 1 := by omega
  rw [e, List.replicate_succ, List.set_append_right _ _ (by simp), List.range_succ]
  simp
theorem vfill_keep (zs : List Int) (n k : Nat) (h : k < n) (hc : consB zs k = true) : vfill zs n (k + 1) = vfill zs n k := by
  rw [← vfill_set zs n k h]
  apply Array.ext'
  apply List.ext_getElem?
  intro j
  simp only [Array.toList_setIfInBounds, List.getElem?_set]
  by_cases hj : k = j
  · subst hj
    have hg := vfill_get zs n k h
    have hl : k < (vfill zs n k).toList.length := by
      rcases Nat.lt_or_ge k (vfill zs n k).toList.length with h' | h'
      · exact h'
      · rw [Array.getElem?_eq_none (by simpa using h')] at hg; cases hg
    rw [if_pos rfl, if_pos hl, hc]
    simpa using hg.symm
  · rw [if_neg hj]

set_option maxHeartbeats 1000000 in
theorem vow_any (a : Option Addr) (n c : Nat) (zs : List Int) (hl : zs.length = n) (hn : n ≤ 1048576) (w : World) (ha : Row w a zs) :
    Calls Try.prog 34 #[.slice a n c] w fun e w' => e = .returned (.slice (some ⟨w.heap.size, 0, none⟩) n n) ∧ w' = w.alloc (.cells (vfill zs n n) 4) := by
  obtain ⟨i0', hi, hi1, hi2, hi3⟩ := info_parts Try.info4
  have HA : Hid (Row w a zs) := ha
  clear ha
  go_enter Try.func34, Try.ntmps34
  go_wp2_with (at_make; refine wpList_make_exact _ rfl _ _ 41 rfl 4 i0' _ 1 1 Try.underlying41 hi hi1 hi2 hi3 _ _ _ _ n rfl rfl rfl rfl (by omega) (by omega) _ (vfill_zero zs n) ?_)
  go_loopw [4] (fun i wr => ∃ k : Nat, k ≤ n ∧ i = .int .i64 k ∧ wr = w.alloc (.cells (vfill zs n k) 4)) (fun i _ => n - (intOf i).toNat)
  case atStart => exact ⟨0, by omega, rfl, rfl⟩
  case round =>
    obtain ⟨k, hk, rfl, rfl⟩ := hrel
    by_cases hlt : k < n
    · obtain ⟨b, off, rfl, hb, hc⟩ := HA.out k (by omega)
      have q1 := vfill_get zs n k hlt
      have Q2 : Hid _ := vfill_set zs n k hlt
      have Q3 : Hid _ := vfill_keep zs n k hlt
      have Q4 : Hid (k ≠ 0 → (vfill zs n k)[k - 1]? = some (.bool (!consB zs (k - 1)))) := fun h => vfill_done zs n k (k - 1) (by omega)
      have hcons : consB zs k = if isV (nth zs k) then false else if k = 0 then true else if nth zs k = 121 then !consB zs (k - 1) else true := by
        cases k with
        | zero => simp only [consB, if_true]; cases isV (nth zs 0) <;> rfl
        | succ k => simp [consB]
      generalize nth zs k = v at hc hcons
      rcases isV_cases v with ⟨hv, h⟩ | ⟨h, h1, h2, h3, h4, h5⟩
      · have hcf : consB zs k = false := by rw [hcons, h]; rfl
        have q2 := Q2.out
        rw [hcf] at q2
        clear hcons hcf h
        rcases hv with rfl | rfl | rfl | rfl | rfl <;>
        · go_wp2
          go_roundw
          case rel => exact ⟨k + 1, by omega, by go_num, congrArg (fun x => w.alloc (.cells x 4)) q2⟩
          case measure => simp [intOf]; omega
      · by_cases hy : v = 121
        · subst hy
          by_cases hk0 : k = 0
          · subst hk0
            have hct : consB zs 0 = true := by rw [hcons, h]; rfl
            have q2 := Q2.out
            rw [hct] at q2
            rw [Nat.add_zero] at hc
            clear hcons hct h
            go_wp2
            go_roundw
            case rel => exact ⟨1, by omega, by go_num, congrArg (fun x => w.alloc (.cells x 4)) q2⟩
            case measure => simp [intOf]; omega
          · have hct : consB zs k = !consB zs (k - 1) := by rw [hcons, h]; simp [hk0]
            have q2 := Q2.out
            rw [hct, Bool.not_not] at q2
            have q4 := Q4.out hk0
            have hk0' : decide ((0 : Int) < (k : Int)) = true := by simp; omega
            have hkb : (0 : Int) ≤ (k : Int) - 1 := by omega
            have Q2' : Hid _ := q2
            clear hcons hct h q2
            go_wp2
            go_roundw
            case rel => exact ⟨k + 1, by omega, by go_num, congrArg (fun x => w.alloc (.cells x 4)) Q2'.out⟩
            case measure => simp [intOf]; omega
        · have h6 : (v == 121) = false := by simpa using hy
          have hct : consB zs k = true := by rw [hcons, h]; simp [hy]
          have q3 := Q3.out hct
          have Q3' : Hid _ := q3
          clear hcons hct h hy q3
          go_wp2
          go_roundw
          case rel => exact ⟨k + 1, by omega, by go_num, by rw [Q3'.out]⟩
          case measure => simp [intOf]; omega
    · obtain rfl : k = n := by omega
      go_wp2
      go_ret
      exact ⟨rfl, rfl⟩

theorem ret_int {k : IntKind} {a b : Int} (h : a = b) : Ending.returned (.int k a) = .returned (.int k b) := by rw [h]

/-! ### tb1M -/
/-- The vowel runs that begin before k. -/
def runsTo (zs : List Int) : Nat → Nat
  | 0 => 0
  | k + 1 => runsTo zs k + if !consB zs k && (decide (k = 0) || consB zs (k - 1)) then 1 else 0
theorem runs_meas (zs : List Int) : ∀ k, runsTo zs (k + 1) = measTo zs k + if consB zs k then 0 else 1
  | 0 => by simp only [runsTo, measTo]; cases consB zs 0 <;> rfl
  | k + 1 => by
    have ih := runs_meas zs k
    have e1 : runsTo zs (k + 1 + 1) = runsTo zs (k + 1) + if !consB zs (k + 1) && (decide (k + 1 = 0) || consB zs (k + 1 - 1)) then 1 else 0 := rfl
    have e2 : measTo zs (k + 1) = measTo zs k + if consB zs (k + 1) && !consB zs k then 1 else 0 := rfl
    rw [e1, e2, ih, Nat.add_sub_cancel]
    cases consB zs k <;> cases consB zs (k + 1) <;> simp
theorem runsTo_le (zs : List Int) (k : Nat) : runsTo zs k ≤ k := by
  induction k with
  | zero => simp [runsTo]
  | succ k ih => simp only [runsTo]; split <;> omega

set_option maxHeartbeats 1000000 in
theorem m_any (a : Option Addr) (n c : Nat) (zs : List Int) (hl : zs.length = n) (hn : n ≤ 1048576) (w : World) (ha : Row w a zs) :
    Calls Try.prog 32 #[.slice a n c] w fun e w' => e = .returned (.int .i64 (meas zs : Int)) ∧ w' = w.alloc (.cells (vfill zs n n) 4) := by
  have V : Hid _ := vow_any a n c zs hl hn w ha
  have D : Hid (∀ j, j < n → (vfill zs n n)[j]? = some (.bool (!consB zs j))) := fun j hj => vfill_done zs n n j hj
  clear ha
  go_enter Try.func32, Try.ntmps32
  go_wp2_with fail
  refine Calls.mono V.out ?_
  rintro e w' ⟨rfl, rfl⟩
  go_wp2_with fail
  go_loop [4, 5] (fun r i => ∃ k : Nat, k ≤ n ∧ i = .int .i64 k ∧ r = .int .i64 (runsTo zs k : Int)) (fun _ i => n - (intOf i).toNat)
  case atStart => exact ⟨0, by omega, rfl, rfl⟩
  case round =>
    obtain ⟨k, hk, rfl, rfl⟩ := hrel
    have hrl := runsTo_le zs k
    by_cases hlt : k < n
    · have hst : runsTo zs (k + 1) = runsTo zs k + if !consB zs k && (decide (k = 0) || consB zs (k - 1)) then 1 else 0 := rfl
      have d1 := D.out k hlt
      have hlt' : (k : Int) < (n : Int) := by omega
      cases h1 : consB zs k with
      | true =>
        have hs : runsTo zs (k + 1) = runsTo zs k := by rw [hst, h1]; simp
        have HS : Hid _ := hs
        rw [h1] at d1
        clear hs hst h1
        go_wp2
        go_round
        case rel => exact ⟨k + 1, by omega, by go_num, by rw [HS.out]⟩
        case measure => simp [intOf]; omega
      | false =>
        rw [h1] at d1
        by_cases hk0 : k = 0
        · have hs : runsTo zs (k + 1) = runsTo zs k + 1 := by rw [hst, h1]; simp [hk0]
          have HS : Hid _ := hs
          clear hs hst h1
          subst hk0
          go_wp2
          go_round
          case rel => exact ⟨1, by omega, by go_num, by rw [HS.out]; go_num⟩
          case measure => simp [intOf]; omega
        · have d2 := D.out (k - 1) (by omega)
          have hk0' : ((k : Int) == 0) = false := by simp; omega
          have hkb : (0 : Int) ≤ (k : Int) - 1 := by omega
          cases h2 : consB zs (k - 1) with
          | true =>
            have hs : runsTo zs (k + 1) = runsTo zs k + 1 := by rw [hst, h1, h2]; simp
            have HS : Hid _ := hs
            rw [h2] at d2
            clear hs hst h1 h2
            go_wp2
            go_round
            case rel => exact ⟨k + 1, by omega, by go_num, by rw [HS.out]; go_num⟩
            case measure => simp [intOf]; omega
          | false =>
            have hs : runsTo zs (k + 1) = runsTo zs k := by rw [hst, h1, h2]; simp [hk0]
            have HS : Hid _ := hs
            rw [h2] at d2
            clear hs hst h1 h2
            go_wp2
            go_round
            case rel => exact ⟨k + 1, by omega, by go_num, by rw [HS.out]⟩
            case measure => simp [intOf]; omega
    · obtain rfl : k = n := by omega
      by_cases hn0 : k = 0
      · subst hn0
        have hf : meas zs = 0 := by simp [meas, hl, measTo]
        have HF : Hid _ := hf
        clear hf
        go_wp2
        go_ret
        exact ⟨by rw [HF.out]; rfl, rfl⟩
      · have d1 := D.out (k - 1) (by omega)
        have hrm := runs_meas zs (k - 1)
        have e1 : k - 1 + 1 = k := by omega
        have e2 : measTo zs (k - 1) = meas zs := by rw [meas, hl]
        rw [e1, e2] at hrm
        have hkb : (0 : Int) ≤ (k : Int) - 1 := by omega
        cases h1 : consB zs (k - 1) with
        | true =>
          rw [h1] at hrm d1
          have HF : Hid (runsTo zs k = meas zs) := by unfold Hid; simpa using hrm
          clear hrm h1 e1 e2
          go_wp2
          go_ret
          exact ⟨by rw [← HF.out]; rfl, rfl⟩
        | false =>
          rw [h1] at hrm d1
          have HF : Hid (runsTo zs k = meas zs + 1) := by unfold Hid; simpa using hrm
          clear hrm h1 e1 e2
          go_wp2
          go_ret
          exact ⟨ret_int (by have := HF.out; omega), rfl⟩

/-! ### tb1Rest -/
/-- What was handed back is longer than the buffer: the buffer is asked to be as it was. -/
theorem rest_long (ai ag ao : Option Addr) (n l ci cg co : Nat) (zs : List Int) (hl : zs.length = n) (hn : n ≤ 1048576) (hlong : n < l) (hl2 : l ≤ 9000000000000000000) (w : World) (hi : Row w ai zs) (ho : Row w ao zs) :
    Calls Try.prog 19 #[.slice ai n ci, .slice ag l cg, .slice ao n co] w fun e w' => e = .returned (.bool true) ∧ ∃ nq, w' = w.drewN nq := by
  have S : Hid _ := same_eq ai ao n ci co zs hl (by omega) w hi ho
  have hne : ((n : Int) != (n : Int)) = false := by simp
  clear hi ho
  go_enter Try.func19, Try.ntmps19
  go_wp2_with fail
  refine Calls.mono S.out ?_
  rintro e w' ⟨rfl, nq, rfl⟩
  go_wp2_with fail
  go_ret
  exact ⟨rfl, _, rfl⟩

set_option maxHeartbeats 1000000 in
/-- What was handed back fits: the buffer reads it, and then its old tail. -/
theorem rest_fits (ai ag ao : Option Addr) (n l ci cg co : Nat) (zi zg zo : List Int) (hli : zi.length = n) (hlg : zg.length = l) (hlo : zo.length = n) (hn : n ≤ 1048576) (hfit : l ≤ n) (w : World) (hi : Row w ai zi) (hg : Row w ag zg) (ho : Row w ao zo)
    (h1 : ∀ j, j < l → nth zi j = nth zg j) (h2 : ∀ j, l ≤ j → j < n → nth zi j = nth zo j) :
    Calls Try.prog 19 #[.slice ai n ci, .slice ag l cg, .slice ao n co] w fun e w' => e = .returned (.bool true) ∧ ∃ nq, w' = w.drewN nq := by
  have HI : Hid (Row w ai zi) := hi
  have HG : Hid (Row w ag zg) := hg
  have HO : Hid (Row w ao zo) := ho
  have H1 : Hid _ := h1
  have H2 : Hid _ := h2
  have hne : ((n : Int) != (n : Int)) = false := by simp
  clear hi hg ho h1 h2
  go_enter Try.func19, Try.ntmps19
  go_wp2_with fail
  go_loopw [7] (fun i wr => ∃ t : Nat, t ≤ l ∧ i = .int .i64 t ∧ ∃ nq, wr = w.drewN nq) (fun i _ => l - (intOf i).toNat)
  case atStart => exact ⟨0, by omega, rfl, 0, rfl⟩
  case round =>
    obtain ⟨t, ht, rfl, nq, rfl⟩ := hrel
    by_cases hlt : t < l
    · obtain ⟨p, off, rfl, hp, hc⟩ := HI.out t (by omega)
      obtain ⟨p', off', rfl, hp', hc'⟩ := HG.out t (by omega)
      rw [← H1.out t hlt] at hc'
      have hlt' : (t : Int) < (l : Int) := by omega
      have hlt2 : (t : Int) < (n : Int) := by omega
      go_wp2
      go_quiet (fail)
      go_wp2
      go_roundw
      case rel => exact ⟨t + 1, by omega, by go_num, _, rfl⟩
      case measure => simp [intOf]; omega
    · obtain rfl : t = l := by omega
      clear hlt
      go_wp2
      go_loopw [8] (fun i wr => ∃ r : Nat, t ≤ r ∧ r ≤ n ∧ i = .int .i64 r ∧ ∃ nq, wr = w.drewN nq) (fun i _ => n - (intOf i).toNat)
      case atStart => exact ⟨t, by omega, by omega, rfl, nq, rfl⟩
      case round =>
        obtain ⟨r, hr0, hr, rfl, nq', rfl⟩ := hrel
        by_cases hlt : r < n
        · obtain ⟨p, off, rfl, hp, hc⟩ := HI.out r (by omega)
          obtain ⟨p', off', rfl, hp', hc'⟩ := HO.out r (by omega)
          rw [← H2.out r hr0 hlt] at hc'
          have hlt2 : (r : Int) < (n : Int) := by omega
          go_wp2
          go_quiet (fail)
          go_wp2
          go_roundw
          case rel => exact ⟨r + 1, by omega, by omega, by go_num, _, rfl⟩
          case measure => simp [intOf]; omega
        · obtain rfl : r = n := by omega
          go_wp2
          go_ret
          exact ⟨rfl, _, rfl⟩
end Go.Proofs.Qxb6601935a
