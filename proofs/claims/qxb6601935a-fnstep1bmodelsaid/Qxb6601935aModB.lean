/-
  The walk of tb1Step1bModel: what it makes of the word is what step1b makes of it.
-/
import Derived.Test.Qxb6601935aStepB
import Derived.Test.Qxb6601935aZZR
namespace Go.Proofs.Qxb6601935a
open Go.RowKit
set_option linter.unusedVariables false
set_option maxRecDepth 20000

def E0 : ByteArray := ⟨#[]⟩
def E1 : ByteArray := ⟨#[101]⟩
/-- What tb1Step1bModel hands back: the word L, in memory of its own. -/
def MO (w : World) (L : List Int) (e : Ending) (w' : World) : Prop := ∃ g l : Nat, e = .returned (.slice (some ⟨g, 0, none⟩) l l) ∧ L.length = l ∧ Row w' (some ⟨g, 0, none⟩) L ∧ w.heap.size ≤ g ∧ Below w.heap.size w w'
theorem MO.of {w : World} {L M : List Int} {e : Ending} {w' : World} (h : M = L) (k : MO w L e w') : MO w M e w' := by subst h; exact k
theorem join_mo (g n c m : Nat) (zs : List Int) (hl : zs.length = n) (hn : n ≤ 1048576) (w W : World) (ha : Row w (some ⟨g, 0, none⟩) zs) (hW : Below w.heap.size w W) (s : ByteArray) (hs : s.size ≤ 1048576) (hm : m ≤ n) :
    Calls Try.prog 30 #[.slice (some ⟨g, 0, none⟩) n c, .int .i64 (m : Int), .string s] W (MO w (zs.take m ++ sb s)) := by
  refine (join_any _ n c m zs hl hn hm s hs W (Row.below ha hW)).mono ?_
  rintro e w' ⟨rfl, rfl⟩
  refine ⟨W.heap.size, m + s.size, rfl, ?_, Row.new W _, hW.size, hW.alloc hW.size _⟩
  rw [List.length_append, List.length_take, length_sb]
  omega
theorem copy_mo (g n c : Nat) (zs : List Int) (hl : zs.length = n) (hn : n ≤ 1048576) (w W : World) (ha : Row w (some ⟨g, 0, none⟩) zs) (hW : Below w.heap.size w W) :
    Calls Try.prog 11 #[.slice (some ⟨g, 0, none⟩) n c] W (MO w zs) := by
  refine (copy_some _ n c zs hl hn W (Row.below ha hW)).mono ?_
  rintro e w' ⟨rfl, rfl⟩
  exact ⟨W.heap.size, n, rfl, hl, Row.new W _, hW.size, hW.alloc hW.size _⟩
theorem ends_is (g n c : Nat) (zs : List Int) (hl : zs.length = n) (hn : n ≤ 1048576) (w W : World) (ha : Row w (some ⟨g, 0, none⟩) zs) (s : ByteArray) (hs : s.size ≤ 1048576) (r : Bool) (hr : endsB zs (sb s) = r) (hW : Below w.heap.size w W) :
    Calls Try.prog 21 #[.slice (some ⟨g, 0, none⟩) n c, .string s] W fun e w' => e = .returned (.bool r) ∧ ∃ nq, w' = W.drewN nq := by
  subst hr
  exact ends_any _ n c zs hl hn s hs W (Row.below ha hW)
theorem m_is (g n c : Nat) (zs : List Int) (hl : zs.length = n) (hn : n ≤ 1048576) (w W : World) (ha : Row w (some ⟨g, 0, none⟩) zs) (hW : Below w.heap.size w W) :
    Calls Try.prog 32 #[.slice (some ⟨g, 0, none⟩) n c] W fun e w' => e = .returned (.int .i64 (meas zs : Int)) ∧ Below W.heap.size W w' := by
  refine (m_any _ n c zs hl hn W (Row.below ha hW)).mono ?_
  rintro e w' ⟨rfl, rfl⟩
  exact ⟨rfl, below_new (Below.refl _ _) _⟩
theorem hv_is (g n c : Nat) (zs : List Int) (hl : zs.length = n) (hn : n ≤ 1048576) (w W : World) (ha : Row w (some ⟨g, 0, none⟩) zs) (hW : Below w.heap.size w W) :
    Calls Try.prog 33 #[.slice (some ⟨g, 0, none⟩) n c] W fun e w' => e = .returned (.bool (hasV zs)) ∧ Below w.heap.size w w' := by
  refine (mhasv_any _ n c zs hl hn W (Row.below ha hW)).mono ?_
  rintro e w' ⟨rfl, rfl⟩
  exact ⟨rfl, hW.alloc hW.size _⟩
/-- The vowels of the word, where x leads. -/
def VowAt (W : World) (x m : Nat) (s : List Int) : Prop := x < W.heap.size ∧ ∀ j, j < m → W.cell? ⟨x, j, none⟩ = some (.bool (!consB s j))
theorem VowAt.below {W W' : World} {x m : Nat} {s : List Int} (h : VowAt W x m s) (hb : Below W.heap.size W W') : VowAt W' x m s :=
  ⟨Nat.lt_of_lt_of_le h.1 hb.size, fun j hj => (hb.cell (p := ⟨x, j, none⟩) h.1).trans (h.2 j hj)⟩
theorem vow_is (g n c : Nat) (zs : List Int) (hl : zs.length = n) (hn : n ≤ 1048576) (w W : World) (ha : Row w (some ⟨g, 0, none⟩) zs) (hW : Below w.heap.size w W) :
    Calls Try.prog 34 #[.slice (some ⟨g, 0, none⟩) n c] W fun e w' => ∃ x, e = .returned (.slice (some ⟨x, 0, none⟩) n n) ∧ VowAt w' x n zs ∧ Below w.heap.size w w' := by
  refine (vow_any _ n c zs hl hn W (Row.below ha hW)).mono ?_
  rintro e w' ⟨rfl, rfl⟩
  refine ⟨W.heap.size, rfl, ⟨by simp, fun j hj => ?_⟩, hW.alloc hW.size _⟩
  rw [World.cell?_alloc_at _ _ _ _ rfl]
  exact vfill_done zs n n j hj
theorem row_cell {w : World} {g : Nat} {s : List Int} (h : Row w (some ⟨g, 0, none⟩) s) (j : Nat) (hj : j < s.length) : w.cell? ⟨g, j, none⟩ = some (.int .u8 (nth s j)) := by
  obtain ⟨b, off, hx, _, hc⟩ := h j hj
  simp only [Option.some.injEq, Addr.mk.injEq, and_true] at hx
  obtain ⟨rfl, rfl⟩ := hx
  rwa [Nat.zero_add] at hc
theorem consB_of (s : List Int) (j : Nat) (h : nth s j = 108 ∨ nth s j = 115 ∨ nth s j = 122) : consB s j = true := by
  have h1 : isV (nth s j) = false := by rcases h with h | h | h <;> rw [h] <;> rfl
  have h2 : nth s j ≠ 121 := by omega
  cases j with
  | zero => simp [consB, h1]
  | succ i => simp [consB, h1, h2]

set_option maxHeartbeats 1000000 in
theorem modb_eed (g n : Nat) (zs : List Int) (hl : zs.length = n) (hn : n ≤ 4096) (w : World) (ha : Row w (some ⟨g, 0, none⟩) zs) (h1 : endsB zs (sb EED) = true) :
    Calls Try.prog 17 #[.slice (some ⟨g, 0, none⟩) n n] w (MO w (s1b zs)) := by
  have h3 : 3 ≤ n := by
    have : (sb EED).length ≤ zs.length := (by simpa [endsB] using h1 : _ ∧ _).1
    rw [← hl]; exact this
  have HE : Hid (∀ W, Below w.heap.size w W → Calls Try.prog 21 #[.slice (some ⟨g, 0, none⟩) n n, .string EED] W fun e w' => e = .returned (.bool true) ∧ ∃ nq, w' = W.drewN nq) := fun W hW => ends_is g n n zs hl (by omega) w W ha EED (by decide) true h1 hW
  have HM : Hid (∀ W, Below w.heap.size w W → Calls Try.prog 32 #[.slice (some ⟨g, 0, none⟩) (n - 3) n] W fun e w' => e = .returned (.int .i64 (meas (zs.take (n - 3)) : Int)) ∧ Below W.heap.size W w') := fun W hW => m_is g (n - 3) n (zs.take (n - 3)) (by simp; omega) (by omega) w W (Row.take ha _) hW
  have HJ : Hid (∀ W, Below w.heap.size w W → Calls Try.prog 30 #[.slice (some ⟨g, 0, none⟩) n n, .int .i64 ((n - 1 : Nat) : Int), .string E0] W (MO w (zs.take (n - 1) ++ sb E0))) := fun W hW => join_mo g n n (n - 1) zs hl (by omega) w W ha hW E0 (by decide) (by omega)
  have HC : Hid (∀ W, Below w.heap.size w W → Calls Try.prog 11 #[.slice (some ⟨g, 0, none⟩) n n] W (MO w zs)) := fun W hW => copy_mo g n n zs hl (by omega) w W ha hW
  have HL : Hid (s1b zs = if 0 < meas (zs.take (n - 3)) then zs.take (n - 1) else zs) := by unfold Hid; rw [s1b, h1, if_pos rfl, hl]
  have EN : Hid ((n : Int) - 1 = ((n - 1 : Nat) : Int)) := by unfold Hid; omega
  clear ha h1
  go_enter Try.func17, Try.ntmps17
  go_wp2_with fail
  refine Calls.mono (HE.out _ (Below.refl _ _)) ?_
  rintro e w' ⟨rfl, nq1, rfl⟩
  go_wp2_with fail
  refine Calls.mono (HM.out _ (below_drewN (Below.refl _ _) _)) ?_
  rintro e W1 ⟨rfl, hB1⟩
  have HB1 : Hid (Below w.heap.size w W1) := below_lift (below_drewN (Below.refl _ _) _) hB1
  clear hB1
  by_cases hp : 0 < meas (zs.take (n - 3))
  · have HF : Hid (s1b zs = zs.take (n - 1) ++ sb E0) := by unfold Hid; rw [HL.out, if_pos hp]; exact (List.append_nil _).symm
    have hp' : (0 : Int) < (meas (zs.take (n - 3)) : Int) := by omega
    clear hp
    generalize (meas (zs.take (n - 3)) : Int) = mm at hp'
    go_wp2_with fail
    rw [EN.out]
    refine Calls.mono (HJ.out _ HB1.out) ?_
    rintro e w' ⟨g', l, rfl, hrest⟩
    have H2 : Hid _ := hrest
    clear hrest
    go_wp2_with fail
    go_ret
    exact MO.of HF.out ⟨g', l, rfl, H2.out⟩
  · have HF : Hid (s1b zs = zs) := by unfold Hid; rw [HL.out, if_neg hp]
    have hp' : ¬ (0 : Int) < (meas (zs.take (n - 3)) : Int) := by omega
    clear hp
    generalize (meas (zs.take (n - 3)) : Int) = mm at hp'
    go_wp2_with fail
    refine Calls.mono (HC.out _ HB1.out) ?_
    rintro e w' ⟨g', l, rfl, hrest⟩
    have H2 : Hid _ := hrest
    clear hrest
    go_wp2_with fail
    go_ret
    exact MO.of HF.out ⟨g', l, rfl, H2.out⟩

set_option maxHeartbeats 1000000 in
theorem modb_none (g n : Nat) (zs : List Int) (hl : zs.length = n) (hn : n ≤ 4096) (w : World) (ha : Row w (some ⟨g, 0, none⟩) zs) (h1 : endsB zs (sb EED) = false) (h2 : endsB zs (sb ED) = false) (h3 : endsB zs (sb ING) = false) :
    Calls Try.prog 17 #[.slice (some ⟨g, 0, none⟩) n n] w (MO w (s1b zs)) := by
  have HE : Hid (∀ (s : ByteArray) (r : Bool) W, s.size ≤ 1048576 → endsB zs (sb s) = r → Below w.heap.size w W → Calls Try.prog 21 #[.slice (some ⟨g, 0, none⟩) n n, .string s] W fun e w' => e = .returned (.bool r) ∧ ∃ nq, w' = W.drewN nq) := fun s r W hs hr hW => ends_is g n n zs hl (by omega) w W ha s hs r hr hW
  have HC : Hid (∀ W, Below w.heap.size w W → Calls Try.prog 11 #[.slice (some ⟨g, 0, none⟩) n n] W (MO w zs)) := fun W hW => copy_mo g n n zs hl (by omega) w W ha hW
  have HF : Hid (s1b zs = zs) := by unfold Hid; rw [s1b, h1, h2, h3]; rfl
  have K1 : Hid _ := h1
  have K2 : Hid _ := h2
  have K3 : Hid _ := h3
  clear ha h1 h2 h3
  go_enter Try.func17, Try.ntmps17
  go_wp2_with fail
  refine Calls.mono (HE.out EED false _ (by decide) K1.out (Below.refl _ _)) ?_
  rintro e w' ⟨rfl, nq1, rfl⟩
  go_wp2_with fail
  refine Calls.mono (HE.out ED false _ (by decide) K2.out (by repeat (first | with_reducible exact Below.refl _ _ | with_reducible refine below_drewN ?_ _))) ?_
  rintro e w' ⟨rfl, nq2, rfl⟩
  go_wp2_with fail
  refine Calls.mono (HE.out ING false _ (by decide) K3.out (by repeat (first | with_reducible exact Below.refl _ _ | with_reducible refine below_drewN ?_ _))) ?_
  rintro e w' ⟨rfl, nq3, rfl⟩
  go_wp2_with fail
  refine Calls.mono (HC.out _ (by repeat (first | with_reducible exact Below.refl _ _ | with_reducible refine below_drewN ?_ _))) ?_
  rintro e w' ⟨g', l, rfl, hrest⟩
  have H2 : Hid _ := hrest
  clear hrest
  go_wp2_with fail
  go_ret
  exact MO.of HF.out ⟨g', l, rfl, H2.out⟩

set_option maxHeartbeats 8000000 in
theorem modb_ed (g n : Nat) (zs : List Int) (hl : zs.length = n) (hn : n ≤ 4096) (w : World) (ha : Row w (some ⟨g, 0, none⟩) zs) (h1 : endsB zs (sb EED) = false) (h2 : endsB zs (sb ED) = true) :
    Calls Try.prog 17 #[.slice (some ⟨g, 0, none⟩) n n] w (MO w (s1b zs)) := by
  have hk : 2 ≤ n := by
    have : (sb ED).length ≤ zs.length := (by simpa [endsB] using h2 : _ ∧ _).1
    rw [← hl]; exact this
  obtain ⟨m, hma, hmb⟩ : ∃ m, m + 2 ≤ n ∧ n ≤ m + 2 := ⟨n - 2, by omega, by omega⟩
  have HMm : Hid (n - 2 = m) := by unfold Hid; omega
  have HE : Hid (∀ (s : ByteArray) (r : Bool) W, s.size ≤ 1048576 → endsB zs (sb s) = r → Below w.heap.size w W → Calls Try.prog 21 #[.slice (some ⟨g, 0, none⟩) n n, .string s] W fun e w' => e = .returned (.bool r) ∧ ∃ nq, w' = W.drewN nq) := fun s r W hs hr hW => ends_is g n n zs hl (by omega) w W ha s hs r hr hW
  have HC : Hid (∀ W, Below w.heap.size w W → Calls Try.prog 11 #[.slice (some ⟨g, 0, none⟩) n n] W (MO w zs)) := fun W hW => copy_mo g n n zs hl (by omega) w W ha hW
  have e2 : zs.length - 2 = m := by omega
  have HL : Hid (s1b zs = stemB (zs.take m) zs) := by unfold Hid; rw [s1b, h1, h2, e2]; rfl
  obtain ⟨s, hs⟩ : ∃ s, s = zs.take m := ⟨_, rfl⟩
  have hsl : s.length = m := by rw [hs, List.length_take]; omega
  have hRs : Row w (some ⟨g, 0, none⟩) s := by rw [hs]; exact Row.take ha _
  rw [← hs] at HL
  have HKT : Hid (s.take m = s) := by unfold Hid; rw [← hsl, List.take_length]
  have HK : Hid (s.take m ++ sb E0 = s) := by unfold Hid; rw [HKT.out]; exact List.append_nil _
  have HHV : Hid (∀ W, Below w.heap.size w W → Calls Try.prog 33 #[.slice (some ⟨g, 0, none⟩) m n] W fun e w' => e = .returned (.bool (hasV s)) ∧ Below w.heap.size w w') := fun W hW => hv_is g m n s hsl (by omega) w W hRs hW
  have HES : Hid (∀ (t : ByteArray) (r : Bool) W, t.size ≤ 1048576 → endsB s (sb t) = r → Below w.heap.size w W → Calls Try.prog 21 #[.slice (some ⟨g, 0, none⟩) m n, .string t] W fun e w' => e = .returned (.bool r) ∧ ∃ nq, w' = W.drewN nq) := fun t r W ht hr hW => ends_is g m n s hsl (by omega) w W hRs t ht r hr hW
  have HVW : Hid (∀ W, Below w.heap.size w W → Calls Try.prog 34 #[.slice (some ⟨g, 0, none⟩) m n] W fun e w' => ∃ x, e = .returned (.slice (some ⟨x, 0, none⟩) m m) ∧ VowAt w' x m s ∧ Below w.heap.size w w') := fun W hW => vow_is g m n s hsl (by omega) w W hRs hW
  have HM : Hid (∀ W, Below w.heap.size w W → Calls Try.prog 32 #[.slice (some ⟨g, 0, none⟩) m n] W fun e w' => e = .returned (.int .i64 (meas s : Int)) ∧ Below W.heap.size W w') := fun W hW => m_is g m n s hsl (by omega) w W hRs hW
  have HJ : Hid (∀ (t : ByteArray) (k : Nat) W, t.size ≤ 1048576 → k ≤ m → Below w.heap.size w W → Calls Try.prog 30 #[.slice (some ⟨g, 0, none⟩) m n, .int .i64 (k : Int), .string t] W (MO w (s.take k ++ sb t))) := fun t k W ht hk hW => join_mo g m n k s hsl (by omega) w W hRs hW t ht hk
  have HSL : Hid _ := hsl
  have HR : Hid _ := hRs
  have Q1 : Hid _ := h1
  have Q2 : Hid _ := h2
  clear ha h1 h2 e2 hs hsl hRs
  go_enter Try.func17, Try.ntmps17
  go_wp2_with fail
  refine Calls.mono (HE.out EED false _ (by decide) Q1.out (by repeat (first | with_reducible exact Below.refl _ _ | with_reducible refine below_drewN ?_ _))) ?_
  rintro e w' ⟨rfl, nq1, rfl⟩
  go_wp2_with fail
  refine Calls.mono (HE.out ED true _ (by decide) Q2.out (by repeat (first | with_reducible exact Below.refl _ _ | with_reducible refine below_drewN ?_ _))) ?_
  rintro e w' ⟨rfl, nq2, rfl⟩
  go_wp2_with fail
  rw [HMm.out]
  refine Calls.mono (HHV.out _ (by repeat (first | with_reducible exact Below.refl _ _ | with_reducible refine below_drewN ?_ _))) ?_
  rintro e W1 ⟨rfl, hB1⟩
  have HB1 : Hid _ := hB1
  clear hB1
  cases hv : hasV s with
  | false =>
    have HF : Hid (s1b zs = zs) := by unfold Hid; rw [HL.out, stemB, hv]; rfl
    clear hv
    go_wp2_with fail
    refine Calls.mono (HC.out _ HB1.out) ?_
    rintro e w' ⟨g', l, rfl, hrest⟩
    have H2 : Hid _ := hrest
    clear hrest
    go_wp2_with fail
    go_ret
    exact MO.of HF.out ⟨g', l, rfl, H2.out⟩
  | true =>
  have HL2 : Hid (s1b zs = if endsB s (sb AT) || endsB s (sb BL) || endsB s (sb IZ) then s ++ [101] else if dblB s then (if nth s (m - 1) = 108 ∨ nth s (m - 1) = 115 ∨ nth s (m - 1) = 122 then s else s.take (m - 1)) else if meas s == 1 && shortB s then s ++ [101] else s) := by unfold Hid; rw [HL.out, stemB, hv, HSL.out]; rfl
  clear hv HL HHV
  go_wp2_with fail
  cases h1 : endsB s (sb AT) with
  | true =>
    have HF : Hid (s1b zs = s.take m ++ sb E1) := by unfold Hid; rw [HL2.out, h1, HKT.out]; rfl
    refine Calls.mono (HES.out AT true _ (by decide) h1 (by repeat (first | with_reducible exact HB1.out | with_reducible refine below_drewN ?_ _))) ?_
    rintro e w' ⟨rfl, nq4, rfl⟩
    clear h1
    go_wp2_with fail
    refine Calls.mono (HJ.out E1 m _ (by decide) (Nat.le_refl m) (by repeat (first | with_reducible exact HB1.out | with_reducible refine below_drewN ?_ _))) ?_
    rintro e w' ⟨g', l, rfl, hrest⟩
    have H2 : Hid _ := hrest
    clear hrest
    go_wp2_with fail
    go_ret
    exact MO.of HF.out ⟨g', l, rfl, H2.out⟩
  | false =>
  refine Calls.mono (HES.out AT false _ (by decide) h1 (by repeat (first | with_reducible exact HB1.out | with_reducible refine below_drewN ?_ _))) ?_
  rintro e w' ⟨rfl, nq10, rfl⟩
  go_wp2_with fail
  cases h2 : endsB s (sb BL) with
  | true =>
    have HF : Hid (s1b zs = s.take m ++ sb E1) := by unfold Hid; rw [HL2.out, h1, h2, HKT.out]; rfl
    refine Calls.mono (HES.out BL true _ (by decide) h2 (by repeat (first | with_reducible exact HB1.out | with_reducible refine below_drewN ?_ _))) ?_
    rintro e w' ⟨rfl, nq4, rfl⟩
    clear h1 h2
    go_wp2_with fail
    refine Calls.mono (HJ.out E1 m _ (by decide) (Nat.le_refl m) (by repeat (first | with_reducible exact HB1.out | with_reducible refine below_drewN ?_ _))) ?_
    rintro e w' ⟨g', l, rfl, hrest⟩
    have H2 : Hid _ := hrest
    clear hrest
    go_wp2_with fail
    go_ret
    exact MO.of HF.out ⟨g', l, rfl, H2.out⟩
  | false =>
  refine Calls.mono (HES.out BL false _ (by decide) h2 (by repeat (first | with_reducible exact HB1.out | with_reducible refine below_drewN ?_ _))) ?_
  rintro e w' ⟨rfl, nq11, rfl⟩
  go_wp2_with fail
  cases h3 : endsB s (sb IZ) with
  | true =>
    have HF : Hid (s1b zs = s.take m ++ sb E1) := by unfold Hid; rw [HL2.out, h1, h2, h3, HKT.out]; rfl
    refine Calls.mono (HES.out IZ true _ (by decide) h3 (by repeat (first | with_reducible exact HB1.out | with_reducible refine below_drewN ?_ _))) ?_
    rintro e w' ⟨rfl, nq4, rfl⟩
    clear h1 h2 h3
    go_wp2_with fail
    refine Calls.mono (HJ.out E1 m _ (by decide) (Nat.le_refl m) (by repeat (first | with_reducible exact HB1.out | with_reducible refine below_drewN ?_ _))) ?_
    rintro e w' ⟨g', l, rfl, hrest⟩
    have H2 : Hid _ := hrest
    clear hrest
    go_wp2_with fail
    go_ret
    exact MO.of HF.out ⟨g', l, rfl, H2.out⟩
  | false =>
  refine Calls.mono (HES.out IZ false _ (by decide) h3 (by repeat (first | with_reducible exact HB1.out | with_reducible refine below_drewN ?_ _))) ?_
  rintro e w' ⟨rfl, nq12, rfl⟩
  have HL3 : Hid (s1b zs = if dblB s then (if nth s (m - 1) = 108 ∨ nth s (m - 1) = 115 ∨ nth s (m - 1) = 122 then s else s.take (m - 1)) else if meas s == 1 && shortB s then s ++ [101] else s) := by unfold Hid; rw [HL2.out, h1, h2, h3]; rfl
  clear h1 h2 h3 HL2 HES
  go_wp2_with fail
  refine Calls.mono (HVW.out _ (by repeat (first | with_reducible exact HB1.out | with_reducible refine below_drewN ?_ _))) ?_
  rintro e W2 ⟨x, rfl, hx, hB2⟩
  have HB2 : Hid _ := hB2
  have HX : Hid _ := hx
  clear hB2 hx HVW HB1
  by_cases hm2 : m < 2
  · have HL4 : Hid (s1b zs = if meas s == 1 && shortB s then s ++ [101] else s) := by
      have h20 : ¬ 2 ≤ m := by omega
      have : dblB s = false := by simp [dblB, HSL.out, h20]
      unfold Hid; rw [HL3.out, this]; rfl
    clear HL3
    have hd : decide ((2 : Int) ≤ (m : Int)) = false := by simp; omega
    go_wp2
    go_quiet (fail)
    go_wp2_with fail
    refine Calls.mono (HM.out _ (below_drewN HB2.out _)) ?_
    rintro e W3 ⟨rfl, hB3⟩
    have HB3 : Hid (Below w.heap.size w W3) := below_lift (below_drewN HB2.out _) hB3
    have HX3 : Hid (VowAt W3 x m s) := VowAt.below (VowAt.below HX.out (below_drewN (Below.refl _ _) _)) hB3
    clear hB3
    by_cases hm1 : meas s = 1
    · have hm1' : ((meas s : Int) == 1) = true := by rw [hm1]; rfl
      have HM1 : Hid (meas s = 1) := hm1
      clear hm1
      generalize (meas s : Int) = mm at hm1'
      have h3' : decide ((3 : Int) ≤ (m : Int)) = false := by simp; omega
      have HF : Hid (s1b zs = s.take m ++ sb E0) := by
        have hsh : shortB s = false := by
          have h30 : ¬ 3 ≤ m := by omega
          simp [shortB, HSL.out, h30]
        unfold Hid; rw [HL4.out, hsh, HK.out, Bool.and_false]; rfl
      go_wp2_with fail
      refine Calls.mono (HJ.out E0 m _ (by decide) (Nat.le_refl m) HB3.out) ?_
      rintro e w' ⟨g', l, rfl, hrest⟩
      have H2 : Hid _ := hrest
      clear hrest
      go_wp2_with fail
      go_ret
      exact MO.of HF.out ⟨g', l, rfl, H2.out⟩
    · have hm1' : ((meas s : Int) == 1) = false := by simp; omega
      have HF : Hid (s1b zs = s.take m ++ sb E0) := by
        have : (meas s == 1) = false := by simpa using hm1
        unfold Hid; rw [HL4.out, this, HK.out]; rfl
      clear hm1
      generalize (meas s : Int) = mm at hm1'
      go_wp2_with fail
      refine Calls.mono (HJ.out E0 m _ (by decide) (Nat.le_refl m) HB3.out) ?_
      rintro e w' ⟨g', l, rfl, hrest⟩
      have H2 : Hid _ := hrest
      clear hrest
      go_wp2_with fail
      go_ret
      exact MO.of HF.out ⟨g', l, rfl, H2.out⟩
  have hd : decide ((2 : Int) ≤ (m : Int)) = true := by simp; omega
  have c1 := row_cell (Row.below HR.out HB2.out) (m - 1) (by rw [HSL.out]; omega)
  have c2 := row_cell (Row.below HR.out HB2.out) (m - 2) (by rw [HSL.out]; omega)
  have d1 := HX.out.2 (m - 1) (by omega)
  have hb1 : (0 : Int) ≤ (m : Int) - 1 := by omega
  have hb2 : (0 : Int) ≤ (m : Int) - 2 := by omega
  have hb3 : (m : Int) - 1 < (m : Int) := by omega
  have hb4 : (m : Int) - 2 < (m : Int) := by omega
  have hDB : dblB s = ((nth s (m - 1) == nth s (m - 2)) && consB s (m - 1)) := by
    have h20 : 2 ≤ m := by omega
    simp [dblB, HSL.out, h20]
  have HK2' : Hid (nth s (m - 2) = 108 ∨ nth s (m - 2) = 115 ∨ nth s (m - 2) = 122 → consB s (m - 2) = true) := consB_of s (m - 2)
  generalize hv1 : nth s (m - 1) = v1 at *
  generalize hv2 : nth s (m - 2) = v2 at *
  have HV1 : Hid _ := hv1
  clear hv1 hv2
  cases he : (v1 == v2) with
  | false =>
    have HL4 : Hid (s1b zs = if meas s == 1 && shortB s then s ++ [101] else s) := by unfold Hid; rw [HL3.out, hDB, he]; rfl
    clear HL3 hDB d1
    go_wp2
    go_quiet (fail)
    go_wp2_with fail
    refine Calls.mono (HM.out _ (below_drewN HB2.out _)) ?_
    rintro e W3 ⟨rfl, hB3⟩
    have HB3 : Hid (Below w.heap.size w W3) := below_lift (below_drewN HB2.out _) hB3
    have HX3 : Hid (VowAt W3 x m s) := VowAt.below (VowAt.below HX.out (below_drewN (Below.refl _ _) _)) hB3
    clear hB3
    by_cases hm1 : meas s = 1
    · have hm1' : ((meas s : Int) == 1) = true := by rw [hm1]; rfl
      have HM1 : Hid (meas s = 1) := hm1
      clear hm1
      generalize (meas s : Int) = mm at hm1'
      by_cases h3 : m < 3
      · have h3' : decide ((3 : Int) ≤ (m : Int)) = false := by simp; omega
        have HF : Hid (s1b zs = s.take m ++ sb E0) := by
          have hsh : shortB s = false := by
            have h30 : ¬ 3 ≤ m := by omega
            simp [shortB, HSL.out, h30]
          unfold Hid; rw [HL4.out, hsh, HK.out, Bool.and_false]; rfl
        go_wp2_with fail
        refine Calls.mono (HJ.out E0 m _ (by decide) (Nat.le_refl m) HB3.out) ?_
        rintro e w' ⟨g', l, rfl, hrest⟩
        have H2 : Hid _ := hrest
        clear hrest
        go_wp2_with fail
        go_ret
        exact MO.of HF.out ⟨g', l, rfl, H2.out⟩
      · have h3' : decide ((3 : Int) ≤ (m : Int)) = true := by simp; omega
        have b3 : (0 : Int) ≤ (m : Int) - 3 := by omega
        have b3' : (m : Int) - 3 < (m : Int) := by omega
        have b2 : (0 : Int) ≤ (m : Int) - 2 := by omega
        have b2' : (m : Int) - 2 < (m : Int) := by omega
        have b1 : (0 : Int) ≤ (m : Int) - 1 := by omega
        have b1' : (m : Int) - 1 < (m : Int) := by omega
        have d3 := HX3.out.2 (m - 3) (by omega)
        cases k3 : consB s (m - 3) with
        | false =>
          rw [k3] at d3
          have HF : Hid (s1b zs = s.take m ++ sb E0) := by
            have hsh : shortB s = false := by
              simp [shortB, HSL.out, k3]
            unfold Hid; rw [HL4.out, hsh, HK.out, Bool.and_false]; rfl
          clear k3
          go_wp2_with fail
          refine Calls.mono (HJ.out E0 m _ (by decide) (Nat.le_refl m) HB3.out) ?_
          rintro e w' ⟨g', l, rfl, hrest⟩
          have H2 : Hid _ := hrest
          clear hrest
          go_wp2_with fail
          go_ret
          exact MO.of HF.out ⟨g', l, rfl, H2.out⟩
        | true =>
          rw [k3] at d3
          have K3 : Hid _ := k3
          clear k3
          have d2 := HX3.out.2 (m - 2) (by omega)
          cases k2 : consB s (m - 2) with
          | true =>
            rw [k2] at d2
            have HF : Hid (s1b zs = s.take m ++ sb E0) := by
              have hsh : shortB s = false := by
                simp [shortB, HSL.out, k2]
              unfold Hid; rw [HL4.out, hsh, HK.out, Bool.and_false]; rfl
            clear k2
            go_wp2_with fail
            refine Calls.mono (HJ.out E0 m _ (by decide) (Nat.le_refl m) HB3.out) ?_
            rintro e w' ⟨g', l, rfl, hrest⟩
            have H2 : Hid _ := hrest
            clear hrest
            go_wp2_with fail
            go_ret
            exact MO.of HF.out ⟨g', l, rfl, H2.out⟩
          | false =>
            rw [k2] at d2
            have K2 : Hid _ := k2
            clear k2
            have d1 := HX3.out.2 (m - 1) (by omega)
            cases k1 : consB s (m - 1) with
            | false =>
              rw [k1] at d1
              have HF : Hid (s1b zs = s.take m ++ sb E0) := by
                have hsh : shortB s = false := by
                  simp [shortB, HSL.out, k1]
                unfold Hid; rw [HL4.out, hsh, HK.out, Bool.and_false]; rfl
              clear k1
              go_wp2_with fail
              refine Calls.mono (HJ.out E0 m _ (by decide) (Nat.le_refl m) HB3.out) ?_
              rintro e w' ⟨g', l, rfl, hrest⟩
              have H2 : Hid _ := hrest
              clear hrest
              go_wp2_with fail
              go_ret
              exact MO.of HF.out ⟨g', l, rfl, H2.out⟩
            | true =>
              rw [k1] at d1
              have c3 : W3.cell? ⟨g, m - 1, none⟩ = some (.int .u8 v1) := by
                have := row_cell (Row.below HR.out HB3.out) (m - 1) (by rw [HSL.out]; omega)
                rwa [HV1.out] at this
              have HSH : Hid (shortB s = (!(v1 == 119) && !(v1 == 120) && !(v1 == 121))) := by
                have h30 : 3 ≤ m := by omega
                unfold Hid
                simp [shortB, HSL.out, HV1.out, k1, K2.out, K3.out, h30]
              clear k1
              by_cases hv : v1 = 119 ∨ v1 = 120 ∨ v1 = 121
              · have HF : Hid (s1b zs = s.take m ++ sb E0) := by
                  have hsh : shortB s = false := by rw [HSH.out]; rcases hv with hv | hv | hv <;> rw [hv] <;> rfl
                  unfold Hid; rw [HL4.out, hsh, HK.out, Bool.and_false]; rfl
                clear HSH
                obtain ⟨v, hvv⟩ : ∃ v, v = v1 := ⟨_, rfl⟩
                rw [← hvv] at c3 hv
                clear hvv
                rcases hv with rfl | rfl | rfl <;> (
                  go_wp2_with fail
                  refine Calls.mono (HJ.out E0 m _ (by decide) (Nat.le_refl m) HB3.out) ?_
                  rintro e w' ⟨g', l, rfl, hrest⟩
                  have H2 : Hid _ := hrest
                  clear hrest
                  go_wp2_with fail
                  go_ret
                  exact MO.of HF.out ⟨g', l, rfl, H2.out⟩)
              · have n1 : (v1 != 119) = true := by simp; omega
                have n2 : (v1 != 120) = true := by simp; omega
                have n3 : (v1 != 121) = true := by simp; omega
                have HF : Hid (s1b zs = s.take m ++ sb E1) := by
                  have hsh : shortB s = true := by
                    have q1 : (v1 == 119) = false := by simp; omega
                    have q2 : (v1 == 120) = false := by simp; omega
                    have q3 : (v1 == 121) = false := by simp; omega
                    rw [HSH.out, q1, q2, q3]; rfl
                  unfold Hid; rw [HL4.out, hsh, HM1.out, HKT.out]; rfl
                clear HSH hv
                go_wp2_with fail
                refine Calls.mono (HJ.out E1 m _ (by decide) (Nat.le_refl m) HB3.out) ?_
                rintro e w' ⟨g', l, rfl, hrest⟩
                have H2 : Hid _ := hrest
                clear hrest
                go_wp2_with fail
                go_ret
                exact MO.of HF.out ⟨g', l, rfl, H2.out⟩
    · have hm1' : ((meas s : Int) == 1) = false := by simp; omega
      have HF : Hid (s1b zs = s.take m ++ sb E0) := by
        have : (meas s == 1) = false := by simpa using hm1
        unfold Hid; rw [HL4.out, this, HK.out]; rfl
      clear hm1
      generalize (meas s : Int) = mm at hm1'
      go_wp2_with fail
      refine Calls.mono (HJ.out E0 m _ (by decide) (Nat.le_refl m) HB3.out) ?_
      rintro e w' ⟨g', l, rfl, hrest⟩
      have H2 : Hid _ := hrest
      clear hrest
      go_wp2_with fail
      go_ret
      exact MO.of HF.out ⟨g', l, rfl, H2.out⟩
  | true =>
  cases hk1 : consB s (m - 1) with
  | false =>
    have HL4 : Hid (s1b zs = if meas s == 1 && shortB s then s ++ [101] else s) := by unfold Hid; rw [HL3.out, hDB, he, hk1]; rfl
    have HK1 : Hid (consB s (m - 1) = false) := hk1
    rw [hk1] at d1
    clear HL3 hDB hk1
    go_wp2
    go_quiet (fail)
    go_wp2_with fail
    refine Calls.mono (HM.out _ (below_drewN HB2.out _)) ?_
    rintro e W3 ⟨rfl, hB3⟩
    have HB3 : Hid (Below w.heap.size w W3) := below_lift (below_drewN HB2.out _) hB3
    have HX3 : Hid (VowAt W3 x m s) := VowAt.below (VowAt.below HX.out (below_drewN (Below.refl _ _) _)) hB3
    clear hB3
    by_cases hm1 : meas s = 1
    · have hm1' : ((meas s : Int) == 1) = true := by rw [hm1]; rfl
      have HM1 : Hid (meas s = 1) := hm1
      clear hm1
      generalize (meas s : Int) = mm at hm1'
      by_cases h3 : m < 3
      · have h3' : decide ((3 : Int) ≤ (m : Int)) = false := by simp; omega
        have HF : Hid (s1b zs = s.take m ++ sb E0) := by
          have hsh : shortB s = false := by
            have h30 : ¬ 3 ≤ m := by omega
            simp [shortB, HSL.out, h30]
          unfold Hid; rw [HL4.out, hsh, HK.out, Bool.and_false]; rfl
        go_wp2_with fail
        refine Calls.mono (HJ.out E0 m _ (by decide) (Nat.le_refl m) HB3.out) ?_
        rintro e w' ⟨g', l, rfl, hrest⟩
        have H2 : Hid _ := hrest
        clear hrest
        go_wp2_with fail
        go_ret
        exact MO.of HF.out ⟨g', l, rfl, H2.out⟩
      · have h3' : decide ((3 : Int) ≤ (m : Int)) = true := by simp; omega
        have b3 : (0 : Int) ≤ (m : Int) - 3 := by omega
        have b3' : (m : Int) - 3 < (m : Int) := by omega
        have b2 : (0 : Int) ≤ (m : Int) - 2 := by omega
        have b2' : (m : Int) - 2 < (m : Int) := by omega
        have b1 : (0 : Int) ≤ (m : Int) - 1 := by omega
        have b1' : (m : Int) - 1 < (m : Int) := by omega
        have d3 := HX3.out.2 (m - 3) (by omega)
        cases k3 : consB s (m - 3) with
        | false =>
          rw [k3] at d3
          have HF : Hid (s1b zs = s.take m ++ sb E0) := by
            have hsh : shortB s = false := by
              simp [shortB, HSL.out, k3]
            unfold Hid; rw [HL4.out, hsh, HK.out, Bool.and_false]; rfl
          clear k3
          go_wp2_with fail
          refine Calls.mono (HJ.out E0 m _ (by decide) (Nat.le_refl m) HB3.out) ?_
          rintro e w' ⟨g', l, rfl, hrest⟩
          have H2 : Hid _ := hrest
          clear hrest
          go_wp2_with fail
          go_ret
          exact MO.of HF.out ⟨g', l, rfl, H2.out⟩
        | true =>
          rw [k3] at d3
          have K3 : Hid _ := k3
          clear k3
          have d2 := HX3.out.2 (m - 2) (by omega)
          cases k2 : consB s (m - 2) with
          | true =>
            rw [k2] at d2
            have HF : Hid (s1b zs = s.take m ++ sb E0) := by
              have hsh : shortB s = false := by
                simp [shortB, HSL.out, k2]
              unfold Hid; rw [HL4.out, hsh, HK.out, Bool.and_false]; rfl
            clear k2
            go_wp2_with fail
            refine Calls.mono (HJ.out E0 m _ (by decide) (Nat.le_refl m) HB3.out) ?_
            rintro e w' ⟨g', l, rfl, hrest⟩
            have H2 : Hid _ := hrest
            clear hrest
            go_wp2_with fail
            go_ret
            exact MO.of HF.out ⟨g', l, rfl, H2.out⟩
          | false =>
            rw [k2] at d2
            have K2 : Hid _ := k2
            clear k2
            have d1 := HX3.out.2 (m - 1) (by omega)
            have k1 := HK1.out
            rw [k1] at d1
            have HF : Hid (s1b zs = s.take m ++ sb E0) := by
              have hsh : shortB s = false := by
                simp [shortB, HSL.out, k1]
              unfold Hid; rw [HL4.out, hsh, HK.out, Bool.and_false]; rfl
            clear k1
            go_wp2_with fail
            refine Calls.mono (HJ.out E0 m _ (by decide) (Nat.le_refl m) HB3.out) ?_
            rintro e w' ⟨g', l, rfl, hrest⟩
            have H2 : Hid _ := hrest
            clear hrest
            go_wp2_with fail
            go_ret
            exact MO.of HF.out ⟨g', l, rfl, H2.out⟩
    · have hm1' : ((meas s : Int) == 1) = false := by simp; omega
      have HF : Hid (s1b zs = s.take m ++ sb E0) := by
        have : (meas s == 1) = false := by simpa using hm1
        unfold Hid; rw [HL4.out, this, HK.out]; rfl
      clear hm1
      generalize (meas s : Int) = mm at hm1'
      go_wp2_with fail
      refine Calls.mono (HJ.out E0 m _ (by decide) (Nat.le_refl m) HB3.out) ?_
      rintro e w' ⟨g', l, rfl, hrest⟩
      have H2 : Hid _ := hrest
      clear hrest
      go_wp2_with fail
      go_ret
      exact MO.of HF.out ⟨g', l, rfl, H2.out⟩
  | true =>
  have HL4' : Hid (s1b zs = if v1 = 108 ∨ v1 = 115 ∨ v1 = 122 then s else s.take (m - 1)) := by unfold Hid; rw [HL3.out, hDB, he, hk1]; rfl
  rw [hk1] at d1
  clear HL3 hDB hk1
  obtain rfl : v1 = v2 := by simpa using he
  by_cases hv : v1 = 108 ∨ v1 = 115 ∨ v1 = 122
  · have HL4 : Hid (s1b zs = s) := by unfold Hid; rw [HL4'.out, if_pos hv]
    have HK2 : Hid (consB s (m - 2) = true) := HK2'.out hv
    clear HL4' HK2' HV1
    rcases hv with rfl | rfl | rfl <;> (
      go_wp2
      go_quiet (fail)
      go_wp2_with fail
      refine Calls.mono (HM.out _ (below_drewN HB2.out _)) ?_
      rintro e W3 ⟨rfl, hB3⟩
      have HB3 : Hid (Below w.heap.size w W3) := below_lift (below_drewN HB2.out _) hB3
      have HX3 : Hid (VowAt W3 x m s) := VowAt.below (VowAt.below HX.out (below_drewN (Below.refl _ _) _)) hB3
      clear hB3
      by_cases hm1 : meas s = 1
      · have hm1' : ((meas s : Int) == 1) = true := by rw [hm1]; rfl
        have HM1 : Hid (meas s = 1) := hm1
        clear hm1
        generalize (meas s : Int) = mm at hm1'
        by_cases h3 : m < 3
        · have h3' : decide ((3 : Int) ≤ (m : Int)) = false := by simp; omega
          have HF : Hid (s1b zs = s.take m ++ sb E0) := by unfold Hid; rw [HL4.out, HK.out]
          go_wp2_with fail
          refine Calls.mono (HJ.out E0 m _ (by decide) (Nat.le_refl m) HB3.out) ?_
          rintro e w' ⟨g', l, rfl, hrest⟩
          have H2 : Hid _ := hrest
          clear hrest
          go_wp2_with fail
          go_ret
          exact MO.of HF.out ⟨g', l, rfl, H2.out⟩
        · have h3' : decide ((3 : Int) ≤ (m : Int)) = true := by simp; omega
          have b3 : (0 : Int) ≤ (m : Int) - 3 := by omega
          have b3' : (m : Int) - 3 < (m : Int) := by omega
          have b2 : (0 : Int) ≤ (m : Int) - 2 := by omega
          have b2' : (m : Int) - 2 < (m : Int) := by omega
          have b1 : (0 : Int) ≤ (m : Int) - 1 := by omega
          have b1' : (m : Int) - 1 < (m : Int) := by omega
          have d3 := HX3.out.2 (m - 3) (by omega)
          cases k3 : consB s (m - 3) with
          | false =>
            rw [k3] at d3
            have HF : Hid (s1b zs = s.take m ++ sb E0) := by unfold Hid; rw [HL4.out, HK.out]
            clear k3
            go_wp2_with fail
            refine Calls.mono (HJ.out E0 m _ (by decide) (Nat.le_refl m) HB3.out) ?_
            rintro e w' ⟨g', l, rfl, hrest⟩
            have H2 : Hid _ := hrest
            clear hrest
            go_wp2_with fail
            go_ret
            exact MO.of HF.out ⟨g', l, rfl, H2.out⟩
          | true =>
            rw [k3] at d3
            have K3 : Hid _ := k3
            clear k3
            have d2 := HX3.out.2 (m - 2) (by omega)
            have k2 := HK2.out
            rw [k2] at d2
            clear k2
            have HF : Hid (s1b zs = s.take m ++ sb E0) := by unfold Hid; rw [HL4.out, HK.out]
            go_wp2_with fail
            refine Calls.mono (HJ.out E0 m _ (by decide) (Nat.le_refl m) HB3.out) ?_
            rintro e w' ⟨g', l, rfl, hrest⟩
            have H2 : Hid _ := hrest
            clear hrest
            go_wp2_with fail
            go_ret
            exact MO.of HF.out ⟨g', l, rfl, H2.out⟩
      · have hm1' : ((meas s : Int) == 1) = false := by simp; omega
        have HF : Hid (s1b zs = s.take m ++ sb E0) := by unfold Hid; rw [HL4.out, HK.out]
        clear hm1
        generalize (meas s : Int) = mm at hm1'
        go_wp2_with fail
        refine Calls.mono (HJ.out E0 m _ (by decide) (Nat.le_refl m) HB3.out) ?_
        rintro e w' ⟨g', l, rfl, hrest⟩
        have H2 : Hid _ := hrest
        clear hrest
        go_wp2_with fail
        go_ret
        exact MO.of HF.out ⟨g', l, rfl, H2.out⟩)
  · have HF : Hid (s1b zs = s.take (m - 1) ++ sb E0) := by unfold Hid; rw [HL4'.out, if_neg hv]; exact (List.append_nil _).symm
    have n1 : (v1 != 108) = true := by simp; omega
    have n2 : (v1 != 115) = true := by simp; omega
    have n3 : (v1 != 122) = true := by simp; omega
    have EN : Hid ((m : Int) - 1 = ((m - 1 : Nat) : Int)) := by unfold Hid; omega
    clear HL4' HK2' hv
    go_wp2
    go_quiet (fail)
    go_wp2_with fail
    rw [EN.out]
    refine Calls.mono (HJ.out E0 (m - 1) _ (by decide) (by omega) (below_drewN HB2.out _)) ?_
    rintro e w' ⟨g', l, rfl, hrest⟩
    have H2 : Hid _ := hrest
    clear hrest
    go_wp2_with fail
    go_ret
    exact MO.of HF.out ⟨g', l, rfl, H2.out⟩

set_option maxHeartbeats 8000000 in
theorem modb_ing (g n : Nat) (zs : List Int) (hl : zs.length = n) (hn : n ≤ 4096) (w : World) (ha : Row w (some ⟨g, 0, none⟩) zs) (h1 : endsB zs (sb EED) = false) (h2 : endsB zs (sb ED) = false) (h3 : endsB zs (sb ING) = true) :
    Calls Try.prog 17 #[.slice (some ⟨g, 0, none⟩) n n] w (MO w (s1b zs)) := by
  have hk : 3 ≤ n := by
    have : (sb ING).length ≤ zs.length := (by simpa [endsB] using h3 : _ ∧ _).1
    rw [← hl]; exact this
  obtain ⟨m, hma, hmb⟩ : ∃ m, m + 3 ≤ n ∧ n ≤ m + 3 := ⟨n - 3, by omega, by omega⟩
  have HMm : Hid (n - 3 = m) := by unfold Hid; omega
  have HE : Hid (∀ (s : ByteArray) (r : Bool) W, s.size ≤ 1048576 → endsB zs (sb s) = r → Below w.heap.size w W → Calls Try.prog 21 #[.slice (some ⟨g, 0, none⟩) n n, .string s] W fun e w' => e = .returned (.bool r) ∧ ∃ nq, w' = W.drewN nq) := fun s r W hs hr hW => ends_is g n n zs hl (by omega) w W ha s hs r hr hW
  have HC : Hid (∀ W, Below w.heap.size w W → Calls Try.prog 11 #[.slice (some ⟨g, 0, none⟩) n n] W (MO w zs)) := fun W hW => copy_mo g n n zs hl (by omega) w W ha hW
  have e2 : zs.length - 3 = m := by omega
  have HL : Hid (s1b zs = stemB (zs.take m) zs) := by unfold Hid; rw [s1b, h1, h2, h3, e2]; rfl
  obtain ⟨s, hs⟩ : ∃ s, s = zs.take m := ⟨_, rfl⟩
  have hsl : s.length = m := by rw [hs, List.length_take]; omega
  have hRs : Row w (some ⟨g, 0, none⟩) s := by rw [hs]; exact Row.take ha _
  rw [← hs] at HL
  have HKT : Hid (s.take m = s) := by unfold Hid; rw [← hsl, List.take_length]
  have HK : Hid (s.take m ++ sb E0 = s) := by unfold Hid; rw [HKT.out]; exact List.append_nil _
  have HHV : Hid (∀ W, Below w.heap.size w W → Calls Try.prog 33 #[.slice (some ⟨g, 0, none⟩) m n] W fun e w' => e = .returned (.bool (hasV s)) ∧ Below w.heap.size w w') := fun W hW => hv_is g m n s hsl (by omega) w W hRs hW
  have HES : Hid (∀ (t : ByteArray) (r : Bool) W, t.size ≤ 1048576 → endsB s (sb t) = r → Below w.heap.size w W → Calls Try.prog 21 #[.slice (some ⟨g, 0, none⟩) m n, .string t] W fun e w' => e = .returned (.bool r) ∧ ∃ nq, w' = W.drewN nq) := fun t r W ht hr hW => ends_is g m n s hsl (by omega) w W hRs t ht r hr hW
  have HVW : Hid (∀ W, Below w.heap.size w W → Calls Try.prog 34 #[.slice (some ⟨g, 0, none⟩) m n] W fun e w' => ∃ x, e = .returned (.slice (some ⟨x, 0, none⟩) m m) ∧ VowAt w' x m s ∧ Below w.heap.size w w') := fun W hW => vow_is g m n s hsl (by omega) w W hRs hW
  have HM : Hid (∀ W, Below w.heap.size w W → Calls Try.prog 32 #[.slice (some ⟨g, 0, none⟩) m n] W fun e w' => e = .returned (.int .i64 (meas s : Int)) ∧ Below W.heap.size W w') := fun W hW => m_is g m n s hsl (by omega) w W hRs hW
  have HJ : Hid (∀ (t : ByteArray) (k : Nat) W, t.size ≤ 1048576 → k ≤ m → Below w.heap.size w W → Calls Try.prog 30 #[.slice (some ⟨g, 0, none⟩) m n, .int .i64 (k : Int), .string t] W (MO w (s.take k ++ sb t))) := fun t k W ht hk hW => join_mo g m n k s hsl (by omega) w W hRs hW t ht hk
  have HSL : Hid _ := hsl
  have HR : Hid _ := hRs
  have Q1 : Hid _ := h1
  have Q2 : Hid _ := h2
  have Q3 : Hid _ := h3
  clear ha h1 h2 h3 e2 hs hsl hRs
  go_enter Try.func17, Try.ntmps17
  go_wp2_with fail
  refine Calls.mono (HE.out EED false _ (by decide) Q1.out (by repeat (first | with_reducible exact Below.refl _ _ | with_reducible refine below_drewN ?_ _))) ?_
  rintro e w' ⟨rfl, nq1, rfl⟩
  go_wp2_with fail
  refine Calls.mono (HE.out ED false _ (by decide) Q2.out (by repeat (first | with_reducible exact Below.refl _ _ | with_reducible refine below_drewN ?_ _))) ?_
  rintro e w' ⟨rfl, nq2, rfl⟩
  go_wp2_with fail
  refine Calls.mono (HE.out ING true _ (by decide) Q3.out (by repeat (first | with_reducible exact Below.refl _ _ | with_reducible refine below_drewN ?_ _))) ?_
  rintro e w' ⟨rfl, nq3, rfl⟩
  go_wp2_with fail
  rw [HMm.out]
  refine Calls.mono (HHV.out _ (by repeat (first | with_reducible exact Below.refl _ _ | with_reducible refine below_drewN ?_ _))) ?_
  rintro e W1 ⟨rfl, hB1⟩
  have HB1 : Hid _ := hB1
  clear hB1
  cases hv : hasV s with
  | false =>
    have HF : Hid (s1b zs = zs) := by unfold Hid; rw [HL.out, stemB, hv]; rfl
    clear hv
    go_wp2_with fail
    refine Calls.mono (HC.out _ HB1.out) ?_
    rintro e w' ⟨g', l, rfl, hrest⟩
    have H2 : Hid _ := hrest
    clear hrest
    go_wp2_with fail
    go_ret
    exact MO.of HF.out ⟨g', l, rfl, H2.out⟩
  | true =>
  have HL2 : Hid (s1b zs = if endsB s (sb AT) || endsB s (sb BL) || endsB s (sb IZ) then s ++ [101] else if dblB s then (if nth s (m - 1) = 108 ∨ nth s (m - 1) = 115 ∨ nth s (m - 1) = 122 then s else s.take (m - 1)) else if meas s == 1 && shortB s then s ++ [101] else s) := by unfold Hid; rw [HL.out, stemB, hv, HSL.out]; rfl
  clear hv HL HHV
  go_wp2_with fail
  cases h1 : endsB s (sb AT) with
  | true =>
    have HF : Hid (s1b zs = s.take m ++ sb E1) := by unfold Hid; rw [HL2.out, h1, HKT.out]; rfl
    refine Calls.mono (HES.out AT true _ (by decide) h1 (by repeat (first | with_reducible exact HB1.out | with_reducible refine below_drewN ?_ _))) ?_
    rintro e w' ⟨rfl, nq4, rfl⟩
    clear h1
    go_wp2_with fail
    refine Calls.mono (HJ.out E1 m _ (by decide) (Nat.le_refl m) (by repeat (first | with_reducible exact HB1.out | with_reducible refine below_drewN ?_ _))) ?_
    rintro e w' ⟨g', l, rfl, hrest⟩
    have H2 : Hid _ := hrest
    clear hrest
    go_wp2_with fail
    go_ret
    exact MO.of HF.out ⟨g', l, rfl, H2.out⟩
  | false =>
  refine Calls.mono (HES.out AT false _ (by decide) h1 (by repeat (first | with_reducible exact HB1.out | with_reducible refine below_drewN ?_ _))) ?_
  rintro e w' ⟨rfl, nq10, rfl⟩
  go_wp2_with fail
  cases h2 : endsB s (sb BL) with
  | true =>
    have HF : Hid (s1b zs = s.take m ++ sb E1) := by unfold Hid; rw [HL2.out, h1, h2, HKT.out]; rfl
    refine Calls.mono (HES.out BL true _ (by decide) h2 (by repeat (first | with_reducible exact HB1.out | with_reducible refine below_drewN ?_ _))) ?_
    rintro e w' ⟨rfl, nq4, rfl⟩
    clear h1 h2
    go_wp2_with fail
    refine Calls.mono (HJ.out E1 m _ (by decide) (Nat.le_refl m) (by repeat (first | with_reducible exact HB1.out | with_reducible refine below_drewN ?_ _))) ?_
    rintro e w' ⟨g', l, rfl, hrest⟩
    have H2 : Hid _ := hrest
    clear hrest
    go_wp2_with fail
    go_ret
    exact MO.of HF.out ⟨g', l, rfl, H2.out⟩
  | false =>
  refine Calls.mono (HES.out BL false _ (by decide) h2 (by repeat (first | with_reducible exact HB1.out | with_reducible refine below_drewN ?_ _))) ?_
  rintro e w' ⟨rfl, nq11, rfl⟩
  go_wp2_with fail
  cases h3 : endsB s (sb IZ) with
  | true =>
    have HF : Hid (s1b zs = s.take m ++ sb E1) := by unfold Hid; rw [HL2.out, h1, h2, h3, HKT.out]; rfl
    refine Calls.mono (HES.out IZ true _ (by decide) h3 (by repeat (first | with_reducible exact HB1.out | with_reducible refine below_drewN ?_ _))) ?_
    rintro e w' ⟨rfl, nq4, rfl⟩
    clear h1 h2 h3
    go_wp2_with fail
    refine Calls.mono (HJ.out E1 m _ (by decide) (Nat.le_refl m) (by repeat (first | with_reducible exact HB1.out | with_reducible refine below_drewN ?_ _))) ?_
    rintro e w' ⟨g', l, rfl, hrest⟩
    have H2 : Hid _ := hrest
    clear hrest
    go_wp2_with fail
    go_ret
    exact MO.of HF.out ⟨g', l, rfl, H2.out⟩
  | false =>
  refine Calls.mono (HES.out IZ false _ (by decide) h3 (by repeat (first | with_reducible exact HB1.out | with_reducible refine below_drewN ?_ _))) ?_
  rintro e w' ⟨rfl, nq12, rfl⟩
  have HL3 : Hid (s1b zs = if dblB s then (if nth s (m - 1) = 108 ∨ nth s (m - 1) = 115 ∨ nth s (m - 1) = 122 then s else s.take (m - 1)) else if meas s == 1 && shortB s then s ++ [101] else s) := by unfold Hid; rw [HL2.out, h1, h2, h3]; rfl
  clear h1 h2 h3 HL2 HES
  go_wp2_with fail
  refine Calls.mono (HVW.out _ (by repeat (first | with_reducible exact HB1.out | with_reducible refine below_drewN ?_ _))) ?_
  rintro e W2 ⟨x, rfl, hx, hB2⟩
  have HB2 : Hid _ := hB2
  have HX : Hid _ := hx
  clear hB2 hx HVW HB1
  by_cases hm2 : m < 2
  · have HL4 : Hid (s1b zs = if meas s == 1 && shortB s then s ++ [101] else s) := by
      have h20 : ¬ 2 ≤ m := by omega
      have : dblB s = false := by simp [dblB, HSL.out, h20]
      unfold Hid; rw [HL3.out, this]; rfl
    clear HL3
    have hd : decide ((2 : Int) ≤ (m : Int)) = false := by simp; omega
    go_wp2
    go_quiet (fail)
    go_wp2_with fail
    refine Calls.mono (HM.out _ (below_drewN HB2.out _)) ?_
    rintro e W3 ⟨rfl, hB3⟩
    have HB3 : Hid (Below w.heap.size w W3) := below_lift (below_drewN HB2.out _) hB3
    have HX3 : Hid (VowAt W3 x m s) := VowAt.below (VowAt.below HX.out (below_drewN (Below.refl _ _) _)) hB3
    clear hB3
    by_cases hm1 : meas s = 1
    · have hm1' : ((meas s : Int) == 1) = true := by rw [hm1]; rfl
      have HM1 : Hid (meas s = 1) := hm1
      clear hm1
      generalize (meas s : Int) = mm at hm1'
      have h3' : decide ((3 : Int) ≤ (m : Int)) = false := by simp; omega
      have HF : Hid (s1b zs = s.take m ++ sb E0) := by
        have hsh : shortB s = false := by
          have h30 : ¬ 3 ≤ m := by omega
          simp [shortB, HSL.out, h30]
        unfold Hid; rw [HL4.out, hsh, HK.out, Bool.and_false]; rfl
      go_wp2_with fail
      refine Calls.mono (HJ.out E0 m _ (by decide) (Nat.le_refl m) HB3.out) ?_
      rintro e w' ⟨g', l, rfl, hrest⟩
      have H2 : Hid _ := hrest
      clear hrest
      go_wp2_with fail
      go_ret
      exact MO.of HF.out ⟨g', l, rfl, H2.out⟩
    · have hm1' : ((meas s : Int) == 1) = false := by simp; omega
      have HF : Hid (s1b zs = s.take m ++ sb E0) := by
        have : (meas s == 1) = false := by simpa using hm1
        unfold Hid; rw [HL4.out, this, HK.out]; rfl
      clear hm1
      generalize (meas s : Int) = mm at hm1'
      go_wp2_with fail
      refine Calls.mono (HJ.out E0 m _ (by decide) (Nat.le_refl m) HB3.out) ?_
      rintro e w' ⟨g', l, rfl, hrest⟩
      have H2 : Hid _ := hrest
      clear hrest
      go_wp2_with fail
      go_ret
      exact MO.of HF.out ⟨g', l, rfl, H2.out⟩
  have hd : decide ((2 : Int) ≤ (m : Int)) = true := by simp; omega
  have c1 := row_cell (Row.below HR.out HB2.out) (m - 1) (by rw [HSL.out]; omega)
  have c2 := row_cell (Row.below HR.out HB2.out) (m - 2) (by rw [HSL.out]; omega)
  have d1 := HX.out.2 (m - 1) (by omega)
  have hb1 : (0 : Int) ≤ (m : Int) - 1 := by omega
  have hb2 : (0 : Int) ≤ (m : Int) - 2 := by omega
  have hb3 : (m : Int) - 1 < (m : Int) := by omega
  have hb4 : (m : Int) - 2 < (m : Int) := by omega
  have hDB : dblB s = ((nth s (m - 1) == nth s (m - 2)) && consB s (m - 1)) := by
    have h20 : 2 ≤ m := by omega
    simp [dblB, HSL.out, h20]
  have HK2' : Hid (nth s (m - 2) = 108 ∨ nth s (m - 2) = 115 ∨ nth s (m - 2) = 122 → consB s (m - 2) = true) := consB_of s (m - 2)
  generalize hv1 : nth s (m - 1) = v1 at *
  generalize hv2 : nth s (m - 2) = v2 at *
  have HV1 : Hid _ := hv1
  clear hv1 hv2
  cases he : (v1 == v2) with
  | false =>
    have HL4 : Hid (s1b zs = if meas s == 1 && shortB s then s ++ [101] else s) := by unfold Hid; rw [HL3.out, hDB, he]; rfl
    clear HL3 hDB d1
    go_wp2
    go_quiet (fail)
    go_wp2_with fail
    refine Calls.mono (HM.out _ (below_drewN HB2.out _)) ?_
    rintro e W3 ⟨rfl, hB3⟩
    have HB3 : Hid (Below w.heap.size w W3) := below_lift (below_drewN HB2.out _) hB3
    have HX3 : Hid (VowAt W3 x m s) := VowAt.below (VowAt.below HX.out (below_drewN (Below.refl _ _) _)) hB3
    clear hB3
    by_cases hm1 : meas s = 1
    · have hm1' : ((meas s : Int) == 1) = true := by rw [hm1]; rfl
      have HM1 : Hid (meas s = 1) := hm1
      clear hm1
      generalize (meas s : Int) = mm at hm1'
      by_cases h3 : m < 3
      · have h3' : decide ((3 : Int) ≤ (m : Int)) = false := by simp; omega
        have HF : Hid (s1b zs = s.take m ++ sb E0) := by
          have hsh : shortB s = false := by
            have h30 : ¬ 3 ≤ m := by omega
            simp [shortB, HSL.out, h30]
          unfold Hid; rw [HL4.out, hsh, HK.out, Bool.and_false]; rfl
        go_wp2_with fail
        refine Calls.mono (HJ.out E0 m _ (by decide) (Nat.le_refl m) HB3.out) ?_
        rintro e w' ⟨g', l, rfl, hrest⟩
        have H2 : Hid _ := hrest
        clear hrest
        go_wp2_with fail
        go_ret
        exact MO.of HF.out ⟨g', l, rfl, H2.out⟩
      · have h3' : decide ((3 : Int) ≤ (m : Int)) = true := by simp; omega
        have b3 : (0 : Int) ≤ (m : Int) - 3 := by omega
        have b3' : (m : Int) - 3 < (m : Int) := by omega
        have b2 : (0 : Int) ≤ (m : Int) - 2 := by omega
        have b2' : (m : Int) - 2 < (m : Int) := by omega
        have b1 : (0 : Int) ≤ (m : Int) - 1 := by omega
        have b1' : (m : Int) - 1 < (m : Int) := by omega
        have d3 := HX3.out.2 (m - 3) (by omega)
        cases k3 : consB s (m - 3) with
        | false =>
          rw [k3] at d3
          have HF : Hid (s1b zs = s.take m ++ sb E0) := by
            have hsh : shortB s = false := by
              simp [shortB, HSL.out, k3]
            unfold Hid; rw [HL4.out, hsh, HK.out, Bool.and_false]; rfl
          clear k3
          go_wp2_with fail
          refine Calls.mono (HJ.out E0 m _ (by decide) (Nat.le_refl m) HB3.out) ?_
          rintro e w' ⟨g', l, rfl, hrest⟩
          have H2 : Hid _ := hrest
          clear hrest
          go_wp2_with fail
          go_ret
          exact MO.of HF.out ⟨g', l, rfl, H2.out⟩
        | true =>
          rw [k3] at d3
          have K3 : Hid _ := k3
          clear k3
          have d2 := HX3.out.2 (m - 2) (by omega)
          cases k2 : consB s (m - 2) with
          | true =>
            rw [k2] at d2
            have HF : Hid (s1b zs = s.take m ++ sb E0) := by
              have hsh : shortB s = false := by
                simp [shortB, HSL.out, k2]
              unfold Hid; rw [HL4.out, hsh, HK.out, Bool.and_false]; rfl
            clear k2
            go_wp2_with fail
            refine Calls.mono (HJ.out E0 m _ (by decide) (Nat.le_refl m) HB3.out) ?_
            rintro e w' ⟨g', l, rfl, hrest⟩
            have H2 : Hid _ := hrest
            clear hrest
            go_wp2_with fail
            go_ret
            exact MO.of HF.out ⟨g', l, rfl, H2.out⟩
          | false =>
            rw [k2] at d2
            have K2 : Hid _ := k2
            clear k2
            have d1 := HX3.out.2 (m - 1) (by omega)
            cases k1 : consB s (m - 1) with
            | false =>
              rw [k1] at d1
              have HF : Hid (s1b zs = s.take m ++ sb E0) := by
                have hsh : shortB s = false := by
                  simp [shortB, HSL.out, k1]
                unfold Hid; rw [HL4.out, hsh, HK.out, Bool.and_false]; rfl
              clear k1
              go_wp2_with fail
              refine Calls.mono (HJ.out E0 m _ (by decide) (Nat.le_refl m) HB3.out) ?_
              rintro e w' ⟨g', l, rfl, hrest⟩
              have H2 : Hid _ := hrest
              clear hrest
              go_wp2_with fail
              go_ret
              exact MO.of HF.out ⟨g', l, rfl, H2.out⟩
            | true =>
              rw [k1] at d1
              have c3 : W3.cell? ⟨g, m - 1, none⟩ = some (.int .u8 v1) := by
                have := row_cell (Row.below HR.out HB3.out) (m - 1) (by rw [HSL.out]; omega)
                rwa [HV1.out] at this
              have HSH : Hid (shortB s = (!(v1 == 119) && !(v1 == 120) && !(v1 == 121))) := by
                have h30 : 3 ≤ m := by omega
                unfold Hid
                simp [shortB, HSL.out, HV1.out, k1, K2.out, K3.out, h30]
              clear k1
              by_cases hv : v1 = 119 ∨ v1 = 120 ∨ v1 = 121
              · have HF : Hid (s1b zs = s.take m ++ sb E0) := by
                  have hsh : shortB s = false := by rw [HSH.out]; rcases hv with hv | hv | hv <;> rw [hv] <;> rfl
                  unfold Hid; rw [HL4.out, hsh, HK.out, Bool.and_false]; rfl
                clear HSH
                obtain ⟨v, hvv⟩ : ∃ v, v = v1 := ⟨_, rfl⟩
                rw [← hvv] at c3 hv
                clear hvv
                rcases hv with rfl | rfl | rfl <;> (
                  go_wp2_with fail
                  refine Calls.mono (HJ.out E0 m _ (by decide) (Nat.le_refl m) HB3.out) ?_
                  rintro e w' ⟨g', l, rfl, hrest⟩
                  have H2 : Hid _ := hrest
                  clear hrest
                  go_wp2_with fail
                  go_ret
                  exact MO.of HF.out ⟨g', l, rfl, H2.out⟩)
              · have n1 : (v1 != 119) = true := by simp; omega
                have n2 : (v1 != 120) = true := by simp; omega
                have n3 : (v1 != 121) = true := by simp; omega
                have HF : Hid (s1b zs = s.take m ++ sb E1) := by
                  have hsh : shortB s = true := by
                    have q1 : (v1 == 119) = false := by simp; omega
                    have q2 : (v1 == 120) = false := by simp; omega
                    have q3 : (v1 == 121) = false := by simp; omega
                    rw [HSH.out, q1, q2, q3]; rfl
                  unfold Hid; rw [HL4.out, hsh, HM1.out, HKT.out]; rfl
                clear HSH hv
                go_wp2_with fail
                refine Calls.mono (HJ.out E1 m _ (by decide) (Nat.le_refl m) HB3.out) ?_
                rintro e w' ⟨g', l, rfl, hrest⟩
                have H2 : Hid _ := hrest
                clear hrest
                go_wp2_with fail
                go_ret
                exact MO.of HF.out ⟨g', l, rfl, H2.out⟩
    · have hm1' : ((meas s : Int) == 1) = false := by simp; omega
      have HF : Hid (s1b zs = s.take m ++ sb E0) := by
        have : (meas s == 1) = false := by simpa using hm1
        unfold Hid; rw [HL4.out, this, HK.out]; rfl
      clear hm1
      generalize (meas s : Int) = mm at hm1'
      go_wp2_with fail
      refine Calls.mono (HJ.out E0 m _ (by decide) (Nat.le_refl m) HB3.out) ?_
      rintro e w' ⟨g', l, rfl, hrest⟩
      have H2 : Hid _ := hrest
      clear hrest
      go_wp2_with fail
      go_ret
      exact MO.of HF.out ⟨g', l, rfl, H2.out⟩
  | true =>
  cases hk1 : consB s (m - 1) with
  | false =>
    have HL4 : Hid (s1b zs = if meas s == 1 && shortB s then s ++ [101] else s) := by unfold Hid; rw [HL3.out, hDB, he, hk1]; rfl
    have HK1 : Hid (consB s (m - 1) = false) := hk1
    rw [hk1] at d1
    clear HL3 hDB hk1
    go_wp2
    go_quiet (fail)
    go_wp2_with fail
    refine Calls.mono (HM.out _ (below_drewN HB2.out _)) ?_
    rintro e W3 ⟨rfl, hB3⟩
    have HB3 : Hid (Below w.heap.size w W3) := below_lift (below_drewN HB2.out _) hB3
    have HX3 : Hid (VowAt W3 x m s) := VowAt.below (VowAt.below HX.out (below_drewN (Below.refl _ _) _)) hB3
    clear hB3
    by_cases hm1 : meas s = 1
    · have hm1' : ((meas s : Int) == 1) = true := by rw [hm1]; rfl
      have HM1 : Hid (meas s = 1) := hm1
      clear hm1
      generalize (meas s : Int) = mm at hm1'
      by_cases h3 : m < 3
      · have h3' : decide ((3 : Int) ≤ (m : Int)) = false := by simp; omega
        have HF : Hid (s1b zs = s.take m ++ sb E0) := by
          have hsh : shortB s = false := by
            have h30 : ¬ 3 ≤ m := by omega
            simp [shortB, HSL.out, h30]
          unfold Hid; rw [HL4.out, hsh, HK.out, Bool.and_false]; rfl
        go_wp2_with fail
        refine Calls.mono (HJ.out E0 m _ (by decide) (Nat.le_refl m) HB3.out) ?_
        rintro e w' ⟨g', l, rfl, hrest⟩
        have H2 : Hid _ := hrest
        clear hrest
        go_wp2_with fail
        go_ret
        exact MO.of HF.out ⟨g', l, rfl, H2.out⟩
      · have h3' : decide ((3 : Int) ≤ (m : Int)) = true := by simp; omega
        have b3 : (0 : Int) ≤ (m : Int) - 3 := by omega
        have b3' : (m : Int) - 3 < (m : Int) := by omega
        have b2 : (0 : Int) ≤ (m : Int) - 2 := by omega
        have b2' : (m : Int) - 2 < (m : Int) := by omega
        have b1 : (0 : Int) ≤ (m : Int) - 1 := by omega
        have b1' : (m : Int) - 1 < (m : Int) := by omega
        have d3 := HX3.out.2 (m - 3) (by omega)
        cases k3 : consB s (m - 3) with
        | false =>
          rw [k3] at d3
          have HF : Hid (s1b zs = s.take m ++ sb E0) := by
            have hsh : shortB s = false := by
              simp [shortB, HSL.out, k3]
            unfold Hid; rw [HL4.out, hsh, HK.out, Bool.and_false]; rfl
          clear k3
          go_wp2_with fail
          refine Calls.mono (HJ.out E0 m _ (by decide) (Nat.le_refl m) HB3.out) ?_
          rintro e w' ⟨g', l, rfl, hrest⟩
          have H2 : Hid _ := hrest
          clear hrest
          go_wp2_with fail
          go_ret
          exact MO.of HF.out ⟨g', l, rfl, H2.out⟩
        | true =>
          rw [k3] at d3
          have K3 : Hid _ := k3
          clear k3
          have d2 := HX3.out.2 (m - 2) (by omega)
          cases k2 : consB s (m - 2) with
          | true =>
            rw [k2] at d2
            have HF : Hid (s1b zs = s.take m ++ sb E0) := by
              have hsh : shortB s = false := by
                simp [shortB, HSL.out, k2]
              unfold Hid; rw [HL4.out, hsh, HK.out, Bool.and_false]; rfl
            clear k2
            go_wp2_with fail
            refine Calls.mono (HJ.out E0 m _ (by decide) (Nat.le_refl m) HB3.out) ?_
            rintro e w' ⟨g', l, rfl, hrest⟩
            have H2 : Hid _ := hrest
            clear hrest
            go_wp2_with fail
            go_ret
            exact MO.of HF.out ⟨g', l, rfl, H2.out⟩
          | false =>
            rw [k2] at d2
            have K2 : Hid _ := k2
            clear k2
            have d1 := HX3.out.2 (m - 1) (by omega)
            have k1 := HK1.out
            rw [k1] at d1
            have HF : Hid (s1b zs = s.take m ++ sb E0) := by
              have hsh : shortB s = false := by
                simp [shortB, HSL.out, k1]
              unfold Hid; rw [HL4.out, hsh, HK.out, Bool.and_false]; rfl
            clear k1
            go_wp2_with fail
            refine Calls.mono (HJ.out E0 m _ (by decide) (Nat.le_refl m) HB3.out) ?_
            rintro e w' ⟨g', l, rfl, hrest⟩
            have H2 : Hid _ := hrest
            clear hrest
            go_wp2_with fail
            go_ret
            exact MO.of HF.out ⟨g', l, rfl, H2.out⟩
    · have hm1' : ((meas s : Int) == 1) = false := by simp; omega
      have HF : Hid (s1b zs = s.take m ++ sb E0) := by
        have : (meas s == 1) = false := by simpa using hm1
        unfold Hid; rw [HL4.out, this, HK.out]; rfl
      clear hm1
      generalize (meas s : Int) = mm at hm1'
      go_wp2_with fail
      refine Calls.mono (HJ.out E0 m _ (by decide) (Nat.le_refl m) HB3.out) ?_
      rintro e w' ⟨g', l, rfl, hrest⟩
      have H2 : Hid _ := hrest
      clear hrest
      go_wp2_with fail
      go_ret
      exact MO.of HF.out ⟨g', l, rfl, H2.out⟩
  | true =>
  have HL4' : Hid (s1b zs = if v1 = 108 ∨ v1 = 115 ∨ v1 = 122 then s else s.take (m - 1)) := by unfold Hid; rw [HL3.out, hDB, he, hk1]; rfl
  rw [hk1] at d1
  clear HL3 hDB hk1
  obtain rfl : v1 = v2 := by simpa using he
  by_cases hv : v1 = 108 ∨ v1 = 115 ∨ v1 = 122
  · have HL4 : Hid (s1b zs = s) := by unfold Hid; rw [HL4'.out, if_pos hv]
    have HK2 : Hid (consB s (m - 2) = true) := HK2'.out hv
    clear HL4' HK2' HV1
    rcases hv with rfl | rfl | rfl <;> (
      go_wp2
      go_quiet (fail)
      go_wp2_with fail
      refine Calls.mono (HM.out _ (below_drewN HB2.out _)) ?_
      rintro e W3 ⟨rfl, hB3⟩
      have HB3 : Hid (Below w.heap.size w W3) := below_lift (below_drewN HB2.out _) hB3
      have HX3 : Hid (VowAt W3 x m s) := VowAt.below (VowAt.below HX.out (below_drewN (Below.refl _ _) _)) hB3
      clear hB3
      by_cases hm1 : meas s = 1
      · have hm1' : ((meas s : Int) == 1) = true := by rw [hm1]; rfl
        have HM1 : Hid (meas s = 1) := hm1
        clear hm1
        generalize (meas s : Int) = mm at hm1'
        by_cases h3 : m < 3
        · have h3' : decide ((3 : Int) ≤ (m : Int)) = false := by simp; omega
          have HF : Hid (s1b zs = s.take m ++ sb E0) := by unfold Hid; rw [HL4.out, HK.out]
          go_wp2_with fail
          refine Calls.mono (HJ.out E0 m _ (by decide) (Nat.le_refl m) HB3.out) ?_
          rintro e w' ⟨g', l, rfl, hrest⟩
          have H2 : Hid _ := hrest
          clear hrest
          go_wp2_with fail
          go_ret
          exact MO.of HF.out ⟨g', l, rfl, H2.out⟩
        · have h3' : decide ((3 : Int) ≤ (m : Int)) = true := by simp; omega
          have b3 : (0 : Int) ≤ (m : Int) - 3 := by omega
          have b3' : (m : Int) - 3 < (m : Int) := by omega
          have b2 : (0 : Int) ≤ (m : Int) - 2 := by omega
          have b2' : (m : Int) - 2 < (m : Int) := by omega
          have b1 : (0 : Int) ≤ (m : Int) - 1 := by omega
          have b1' : (m : Int) - 1 < (m : Int) := by omega
          have d3 := HX3.out.2 (m - 3) (by omega)
          cases k3 : consB s (m - 3) with
          | false =>
            rw [k3] at d3
            have HF : Hid (s1b zs = s.take m ++ sb E0) := by unfold Hid; rw [HL4.out, HK.out]
            clear k3
            go_wp2_with fail
            refine Calls.mono (HJ.out E0 m _ (by decide) (Nat.le_refl m) HB3.out) ?_
            rintro e w' ⟨g', l, rfl, hrest⟩
            have H2 : Hid _ := hrest
            clear hrest
            go_wp2_with fail
            go_ret
            exact MO.of HF.out ⟨g', l, rfl, H2.out⟩
          | true =>
            rw [k3] at d3
            have K3 : Hid _ := k3
            clear k3
            have d2 := HX3.out.2 (m - 2) (by omega)
            have k2 := HK2.out
            rw [k2] at d2
            clear k2
            have HF : Hid (s1b zs = s.take m ++ sb E0) := by unfold Hid; rw [HL4.out, HK.out]
            go_wp2_with fail
            refine Calls.mono (HJ.out E0 m _ (by decide) (Nat.le_refl m) HB3.out) ?_
            rintro e w' ⟨g', l, rfl, hrest⟩
            have H2 : Hid _ := hrest
            clear hrest
            go_wp2_with fail
            go_ret
            exact MO.of HF.out ⟨g', l, rfl, H2.out⟩
      · have hm1' : ((meas s : Int) == 1) = false := by simp; omega
        have HF : Hid (s1b zs = s.take m ++ sb E0) := by unfold Hid; rw [HL4.out, HK.out]
        clear hm1
        generalize (meas s : Int) = mm at hm1'
        go_wp2_with fail
        refine Calls.mono (HJ.out E0 m _ (by decide) (Nat.le_refl m) HB3.out) ?_
        rintro e w' ⟨g', l, rfl, hrest⟩
        have H2 : Hid _ := hrest
        clear hrest
        go_wp2_with fail
        go_ret
        exact MO.of HF.out ⟨g', l, rfl, H2.out⟩)
  · have HF : Hid (s1b zs = s.take (m - 1) ++ sb E0) := by unfold Hid; rw [HL4'.out, if_neg hv]; exact (List.append_nil _).symm
    have n1 : (v1 != 108) = true := by simp; omega
    have n2 : (v1 != 115) = true := by simp; omega
    have n3 : (v1 != 122) = true := by simp; omega
    have EN : Hid ((m : Int) - 1 = ((m - 1 : Nat) : Int)) := by unfold Hid; omega
    clear HL4' HK2' hv
    go_wp2
    go_quiet (fail)
    go_wp2_with fail
    rw [EN.out]
    refine Calls.mono (HJ.out E0 (m - 1) _ (by decide) (by omega) (below_drewN HB2.out _)) ?_
    rintro e w' ⟨g', l, rfl, hrest⟩
    have H2 : Hid _ := hrest
    clear hrest
    go_wp2_with fail
    go_ret
    exact MO.of HF.out ⟨g', l, rfl, H2.out⟩

theorem modb_any (g n : Nat) (zs : List Int) (hl : zs.length = n) (hn : n ≤ 4096) (w : World) (ha : Row w (some ⟨g, 0, none⟩) zs) :
    Calls Try.prog 17 #[.slice (some ⟨g, 0, none⟩) n n] w (MO w (s1b zs)) := by
  cases h1 : endsB zs (sb EED) with
  | true => exact modb_eed g n zs hl hn w ha h1
  | false =>
    cases h2 : endsB zs (sb ED) with
    | true => exact modb_ed g n zs hl hn w ha h1 h2
    | false =>
      cases h3 : endsB zs (sb ING) with
      | true => exact modb_ing g n zs hl hn w ha h1 h2 h3
      | false => exact modb_none g n zs hl hn w ha h1 h2 h3
theorem modb_nil (w : World) : Calls Try.prog 17 #[.slice none 0 0] w fun e w' => e = .returned (.slice none 0 0) ∧ ∃ nq, w' = w.drewN nq := by
  have H1 : Hid (∀ W, Calls Try.prog 21 #[.slice none 0 0, .string EED] W fun e w' => e = .returned (.bool false) ∧ ∃ nq, w' = W.drewN nq) := fun W => ends_any none 0 0 [] rfl (by omega) EED (by decide) W (Row.nil _ _)
  have H2 : Hid (∀ W, Calls Try.prog 21 #[.slice none 0 0, .string ED] W fun e w' => e = .returned (.bool false) ∧ ∃ nq, w' = W.drewN nq) := fun W => ends_any none 0 0 [] rfl (by omega) ED (by decide) W (Row.nil _ _)
  have H3 : Hid (∀ W, Calls Try.prog 21 #[.slice none 0 0, .string ING] W fun e w' => e = .returned (.bool false) ∧ ∃ nq, w' = W.drewN nq) := fun W => ends_any none 0 0 [] rfl (by omega) ING (by decide) W (Row.nil _ _)
  go_enter Try.func17, Try.ntmps17
  go_wp2_with fail
  refine Calls.mono (H1.out _) ?_
  rintro e w' ⟨rfl, nq1, rfl⟩
  go_wp2_with fail
  refine Calls.mono (H2.out _) ?_
  rintro e w' ⟨rfl, nq2, rfl⟩
  go_wp2_with fail
  refine Calls.mono (H3.out _) ?_
  rintro e w' ⟨rfl, nq3, rfl⟩
  go_wp2_with fail
  refine (copy_nil _).mono ?_
  rintro e w' ⟨rfl, rfl⟩
  go_wp2_with fail
  go_ret
  exact ⟨rfl, _, rfl⟩
end Go.Proofs.Qxb6601935a
