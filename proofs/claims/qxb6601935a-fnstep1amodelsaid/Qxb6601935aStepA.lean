/-
  The walks of tb1Step1aRule, tb1Step1aModel, step1a, ZZStep1a, FnStep1aModel.
-/
import Derived.Test.Qxb6601935aBase
namespace Go.Proofs.Qxb6601935a
open Go.RowKit
set_option linter.unusedVariables false

/-! ### Plain: what a word ends with -/
theorem endsB_iff {zs ys : List Int} (h : endsB zs ys = true) : ∃ p, zs = p ++ ys := by
  simp only [endsB, decide_eq_true_eq] at h
  refine ⟨zs.take (zs.length - ys.length), ?_⟩
  conv => lhs; rw [← List.take_append_drop (zs.length - ys.length) zs, h.2]
theorem endsB_app (p A B : List Int) (h : B.length ≤ A.length) : endsB (p ++ A) B = endsB A B := by
  have e : (p ++ A).drop ((p ++ A).length - B.length) = A.drop (A.length - B.length) := by
    rw [List.drop_append, List.length_append]
    have e1 : p.drop (p.length + A.length - B.length) = [] := List.drop_eq_nil_of_le (by omega)
    have e2 : p.length + A.length - B.length - p.length = A.length - B.length := by omega
    rw [e1, e2]
    rfl
  simp only [endsB, e]
  congr 1
  apply propext
  simp
  intro _
  omega

def SSES : ByteArray := ⟨#[115, 115, 101, 115]⟩
def IES : ByteArray := ⟨#[105, 101, 115]⟩
def SS : ByteArray := ⟨#[115, 115]⟩
def S : ByteArray := ⟨#[115]⟩
theorem sb_SSES : sb SSES = [115, 115, 101, 115] := rfl
theorem sb_IES : sb IES = [105, 101, 115] := rfl
theorem sb_SS : sb SS = [115, 115] := rfl
theorem sb_S : sb S = [115] := rfl

/-- How much of the word step 1a leaves. -/
def leaves (zs : List Int) : Nat :=
  if endsB zs (sb SSES) then zs.length - 2 else if endsB zs (sb IES) then zs.length - 2 else if endsB zs (sb SS) then zs.length else if endsB zs (sb S) then zs.length - 1 else zs.length

theorem ofA {zs : List Int} (h : endsB zs (sb SSES) = true) : endsB zs (sb IES) = false ∧ endsB zs (sb SS) = false ∧ endsB zs (sb S) = true ∧ 4 ≤ zs.length ∧ zs.take (zs.length - 4) ++ sb SS = zs.take (zs.length - 2) := by
  obtain ⟨p, rfl⟩ := endsB_iff h
  rw [sb_SSES, sb_IES, sb_SS, sb_S, endsB_app _ _ _ (by decide), endsB_app _ _ _ (by decide), endsB_app _ _ _ (by decide)]
  refine ⟨by decide, by decide, by decide, by simp, ?_⟩
  have e1 : (p ++ [115, 115, 101, 115]).length - 4 = p.length := by simp
  have e2 : (p ++ [115, 115, 101, 115]).length - 2 = p.length + 2 := by simp
  rw [e1, e2]
  simp [List.take_append, List.take_of_length_le (Nat.le_add_right p.length 2)]
theorem ofB {zs : List Int} (h : endsB zs (sb IES) = true) : endsB zs (sb SS) = false ∧ endsB zs (sb S) = true ∧ 3 ≤ zs.length ∧ zs.take (zs.length - 3) ++ sb ⟨#[105]⟩ = zs.take (zs.length - 2) := by
  obtain ⟨p, rfl⟩ := endsB_iff h
  rw [sb_IES, sb_SS, sb_S, endsB_app _ _ _ (by decide), endsB_app _ _ _ (by decide)]
  refine ⟨by decide, by decide, by simp, ?_⟩
  have e1 : (p ++ [105, 101, 115]).length - 3 = p.length := by simp
  have e2 : (p ++ [105, 101, 115]).length - 2 = p.length + 1 := by simp
  rw [e1, e2]
  have e3 : sb ⟨#[105]⟩ = [105] := rfl
  rw [e3]
  simp [List.take_append, List.take_of_length_le (Nat.le_add_right p.length 1)]
theorem ofC {zs : List Int} (h : endsB zs (sb SS) = true) : endsB zs (sb S) = true ∧ 2 ≤ zs.length ∧ zs.take (zs.length - 2) ++ sb SS = zs := by
  obtain ⟨p, rfl⟩ := endsB_iff h
  rw [sb_SS, sb_S, endsB_app _ _ _ (by decide)]
  refine ⟨by decide, by simp, ?_⟩
  have e1 : (p ++ [115, 115]).length - 2 = p.length := by simp
  rw [e1]
  simp
theorem ofD {zs : List Int} (h : endsB zs (sb S) = true) : 1 ≤ zs.length := by
  obtain ⟨p, rfl⟩ := endsB_iff h
  simp [sb_S]

/-! ### tb1Step1aRule -/
theorem rule_0 (w : World) : Calls Try.prog 29 #[.int .i64 0] w fun e w' => e = .returned (.tuple #[.string SSES, .string SS]) ∧ w = w' := by
  go_enter Try.func29, Try.ntmps29
  go_wp2
  go_ret2
  exact ⟨rfl, rfl⟩
theorem rule_1 (w : World) : Calls Try.prog 29 #[.int .i64 1] w fun e w' => e = .returned (.tuple #[.string IES, .string ⟨#[105]⟩]) ∧ w = w' := by
  go_enter Try.func29, Try.ntmps29
  go_wp2
  go_ret2
  exact ⟨rfl, rfl⟩
theorem rule_2 (w : World) : Calls Try.prog 29 #[.int .i64 2] w fun e w' => e = .returned (.tuple #[.string SS, .string SS]) ∧ w = w' := by
  go_enter Try.func29, Try.ntmps29
  go_wp2
  go_ret2
  exact ⟨rfl, rfl⟩
theorem rule_3 (w : World) : Calls Try.prog 29 #[.int .i64 3] w fun e w' => e = .returned (.tuple #[.string S, .string ⟨#[]⟩]) ∧ w = w' := by
  go_enter Try.func29, Try.ntmps29
  go_wp2
  go_ret2
  exact ⟨rfl, rfl⟩
theorem size_SSES : SSES.size = 4 := rfl
theorem size_IES : IES.size = 3 := rfl
theorem size_SS : SS.size = 2 := rfl
theorem size_S : S.size = 1 := rfl

set_option maxHeartbeats 1000000 in
theorem model_A (b off n c : Nat) (zs : List Int) (hl : zs.length = n) (hn : n ≤ 1048576) (w : World) (ha : Row w (some ⟨b, off, none⟩) zs)
    (h1 : endsB zs (sb SSES) = true) (h2 : endsB zs (sb IES) = false) (h3 : endsB zs (sb SS) = false) (h4 : endsB zs (sb S) = true) (m : Nat) (hge : 4 ≤ n) (hm : n - 4 + (SS : ByteArray).size = m) (hL : zs.take (n - 4) ++ sb SS = zs.take m) :
    Calls Try.prog 12 #[.slice (some ⟨b, off, none⟩) n c] w fun e w' => ∃ nq, e = .returned (.slice (some ⟨w.heap.size, 0, none⟩) m m) ∧ w' = (w.drewN nq).alloc (.cells (bs (zs.take m)) 5) := by
  have E : ∀ (s : ByteArray) (W : World), s.size ≤ 1048576 → Below w.heap.size w W → Calls Try.prog 21 #[.slice (some ⟨b, off, none⟩) n c, .string s] W fun e w' => e = .returned (.bool (endsB zs (sb s))) ∧ ∃ nq, w' = W.drewN nq := fun s W hs hW => ends_any _ n c zs hl hn s hs W (ha.below hW)
  have HE : Hid _ := E
  have J : ∀ W : World, Below w.heap.size w W → W.heap.size = w.heap.size → Calls Try.prog 30 #[.slice (some ⟨b, off, none⟩) n c, .int .i64 ((n - 4 : Nat) : Int), .string SS] W fun e w' => e = .returned (.slice (some ⟨w.heap.size, 0, none⟩) m m) ∧ w' = W.alloc (.cells (bs (zs.take m)) 5) := by
    intro W hW hs
    have := join_any (some ⟨b, off, none⟩) n c (n - 4) zs hl hn (by omega) SS (by decide) W (ha.below hW)
    rwa [hm, hL, hs] at this
  have HJ : Hid _ := J
  have s1 := size_SSES
  have s2 := size_IES
  have s3 := size_SS
  have s4 := size_S
  have en : (n : Int) - 4 = ((n - 4 : Nat) : Int) := by omega
  have EN : Hid _ := en
  clear en hL hm
  clear E ha J
  go_enter Try.func12, Try.ntmps12
  go_wp2
  refine wp_loop_rounds 5 ?_
  rw [rounds_succ]
  go_wp2_with fail
  refine (rule_0 _).mono ?_
  rintro e w' ⟨rfl, rfl⟩
  go_wp2_with fail
  refine Calls.mono (HE.out SSES _ (by decide) (Below.refl _ _)) ?_
  rintro e w' ⟨rfl, nq0, rfl⟩
  rw [h1]
  go_wp2
  rw [rounds_succ]
  go_wp2_with fail
  refine (rule_1 _).mono ?_
  rintro e w' ⟨rfl, rfl⟩
  go_wp2_with fail
  refine Calls.mono (HE.out IES _ (by decide) (below_drewN (Below.refl _ _) _)) ?_
  rintro e w' ⟨rfl, nq1, rfl⟩
  rw [h2]
  simp only [World.drewN_drewN]
  go_wp2
  rw [rounds_succ]
  go_wp2_with fail
  refine (rule_2 _).mono ?_
  rintro e w' ⟨rfl, rfl⟩
  go_wp2_with fail
  refine Calls.mono (HE.out SS _ (by decide) (below_drewN (Below.refl _ _) _)) ?_
  rintro e w' ⟨rfl, nq2, rfl⟩
  rw [h3]
  simp only [World.drewN_drewN]
  go_wp2
  rw [rounds_succ]
  go_wp2_with fail
  refine (rule_3 _).mono ?_
  rintro e w' ⟨rfl, rfl⟩
  go_wp2_with fail
  refine Calls.mono (HE.out S _ (by decide) (below_drewN (Below.refl _ _) _)) ?_
  rintro e w' ⟨rfl, nq3, rfl⟩
  rw [h4]
  simp only [World.drewN_drewN]
  go_wp2
  rw [rounds_succ]
  go_wp2_with fail
  refine (rule_0 _).mono ?_
  rintro e w' ⟨rfl, rfl⟩
  go_wp2_with fail
  rw [EN.out]
  refine Calls.mono (HJ.out _ (below_drewN (Below.refl _ _) _) rfl) ?_
  rintro e w' ⟨rfl, rfl⟩
  go_wp2
  go_ret
  exact ⟨_, rfl, rfl⟩

set_option maxHeartbeats 1000000 in
theorem model_B (b off n c : Nat) (zs : List Int) (hl : zs.length = n) (hn : n ≤ 1048576) (w : World) (ha : Row w (some ⟨b, off, none⟩) zs)
    (h1 : endsB zs (sb SSES) = false) (h2 : endsB zs (sb IES) = true) (h3 : endsB zs (sb SS) = false) (h4 : endsB zs (sb S) = true) (m : Nat) (hge : 3 ≤ n) (hm : n - 3 + (⟨#[105]⟩ : ByteArray).size = m) (hL : zs.take (n - 3) ++ sb ⟨#[105]⟩ = zs.take m) :
    Calls Try.prog 12 #[.slice (some ⟨b, off, none⟩) n c] w fun e w' => ∃ nq, e = .returned (.slice (some ⟨w.heap.size, 0, none⟩) m m) ∧ w' = (w.drewN nq).alloc (.cells (bs (zs.take m)) 5) := by
  have E : ∀ (s : ByteArray) (W : World), s.size ≤ 1048576 → Below w.heap.size w W → Calls Try.prog 21 #[.slice (some ⟨b, off, none⟩) n c, .string s] W fun e w' => e = .returned (.bool (endsB zs (sb s))) ∧ ∃ nq, w' = W.drewN nq := fun s W hs hW => ends_any _ n c zs hl hn s hs W (ha.below hW)
  have HE : Hid _ := E
  have J : ∀ W : World, Below w.heap.size w W → W.heap.size = w.heap.size → Calls Try.prog 30 #[.slice (some ⟨b, off, none⟩) n c, .int .i64 ((n - 3 : Nat) : Int), .string ⟨#[105]⟩] W fun e w' => e = .returned (.slice (some ⟨w.heap.size, 0, none⟩) m m) ∧ w' = W.alloc (.cells (bs (zs.take m)) 5) := by
    intro W hW hs
    have := join_any (some ⟨b, off, none⟩) n c (n - 3) zs hl hn (by omega) ⟨#[105]⟩ (by decide) W (ha.below hW)
    rwa [hm, hL, hs] at this
  have HJ : Hid _ := J
  have s1 := size_SSES
  have s2 := size_IES
  have s3 := size_SS
  have s4 := size_S
  have en : (n : Int) - 3 = ((n - 3 : Nat) : Int) := by omega
  have EN : Hid _ := en
  clear en hL hm
  clear E ha J
  go_enter Try.func12, Try.ntmps12
  go_wp2
  refine wp_loop_rounds 5 ?_
  rw [rounds_succ]
  go_wp2_with fail
  refine (rule_0 _).mono ?_
  rintro e w' ⟨rfl, rfl⟩
  go_wp2_with fail
  refine Calls.mono (HE.out SSES _ (by decide) (Below.refl _ _)) ?_
  rintro e w' ⟨rfl, nq0, rfl⟩
  rw [h1]
  go_wp2
  rw [rounds_succ]
  go_wp2_with fail
  refine (rule_1 _).mono ?_
  rintro e w' ⟨rfl, rfl⟩
  go_wp2_with fail
  refine Calls.mono (HE.out IES _ (by decide) (below_drewN (Below.refl _ _) _)) ?_
  rintro e w' ⟨rfl, nq1, rfl⟩
  rw [h2]
  simp only [World.drewN_drewN]
  go_wp2
  rw [rounds_succ]
  go_wp2_with fail
  refine (rule_2 _).mono ?_
  rintro e w' ⟨rfl, rfl⟩
  go_wp2_with fail
  refine Calls.mono (HE.out SS _ (by decide) (below_drewN (Below.refl _ _) _)) ?_
  rintro e w' ⟨rfl, nq2, rfl⟩
  rw [h3]
  simp only [World.drewN_drewN]
  go_wp2
  rw [rounds_succ]
  go_wp2_with fail
  refine (rule_3 _).mono ?_
  rintro e w' ⟨rfl, rfl⟩
  go_wp2_with fail
  refine Calls.mono (HE.out S _ (by decide) (below_drewN (Below.refl _ _) _)) ?_
  rintro e w' ⟨rfl, nq3, rfl⟩
  rw [h4]
  simp only [World.drewN_drewN]
  go_wp2
  rw [rounds_succ]
  go_wp2_with fail
  refine (rule_1 _).mono ?_
  rintro e w' ⟨rfl, rfl⟩
  go_wp2_with fail
  rw [EN.out]
  refine Calls.mono (HJ.out _ (below_drewN (Below.refl _ _) _) rfl) ?_
  rintro e w' ⟨rfl, rfl⟩
  go_wp2
  go_ret
  exact ⟨_, rfl, rfl⟩

set_option maxHeartbeats 1000000 in
theorem model_C (b off n c : Nat) (zs : List Int) (hl : zs.length = n) (hn : n ≤ 1048576) (w : World) (ha : Row w (some ⟨b, off, none⟩) zs)
    (h1 : endsB zs (sb SSES) = false) (h2 : endsB zs (sb IES) = false) (h3 : endsB zs (sb SS) = true) (h4 : endsB zs (sb S) = true) (m : Nat) (hge : 2 ≤ n) (hm : n - 2 + (SS : ByteArray).size = m) (hL : zs.take (n - 2) ++ sb SS = zs.take m) :
    Calls Try.prog 12 #[.slice (some ⟨b, off, none⟩) n c] w fun e w' => ∃ nq, e = .returned (.slice (some ⟨w.heap.size, 0, none⟩) m m) ∧ w' = (w.drewN nq).alloc (.cells (bs (zs.take m)) 5) := by
  have E : ∀ (s : ByteArray) (W : World), s.size ≤ 1048576 → Below w.heap.size w W → Calls Try.prog 21 #[.slice (some ⟨b, off, none⟩) n c, .string s] W fun e w' => e = .returned (.bool (endsB zs (sb s))) ∧ ∃ nq, w' = W.drewN nq := fun s W hs hW => ends_any _ n c zs hl hn s hs W (ha.below hW)
  have HE : Hid _ := E
  have J : ∀ W : World, Below w.heap.size w W → W.heap.size = w.heap.size → Calls Try.prog 30 #[.slice (some ⟨b, off, none⟩) n c, .int .i64 ((n - 2 : Nat) : Int), .string SS] W fun e w' => e = .returned (.slice (some ⟨w.heap.size, 0, none⟩) m m) ∧ w' = W.alloc (.cells (bs (zs.take m)) 5) := by
    intro W hW hs
    have := join_any (some ⟨b, off, none⟩) n c (n - 2) zs hl hn (by omega) SS (by decide) W (ha.below hW)
    rwa [hm, hL, hs] at this
  have HJ : Hid _ := J
  have s1 := size_SSES
  have s2 := size_IES
  have s3 := size_SS
  have s4 := size_S
  have en : (n : Int) - 2 = ((n - 2 : Nat) : Int) := by omega
  have EN : Hid _ := en
  clear en hL hm
  clear E ha J
  go_enter Try.func12, Try.ntmps12
  go_wp2
  refine wp_loop_rounds 5 ?_
  rw [rounds_succ]
  go_wp2_with fail
  refine (rule_0 _).mono ?_
  rintro e w' ⟨rfl, rfl⟩
  go_wp2_with fail
  refine Calls.mono (HE.out SSES _ (by decide) (Below.refl _ _)) ?_
  rintro e w' ⟨rfl, nq0, rfl⟩
  rw [h1]
  go_wp2
  rw [rounds_succ]
  go_wp2_with fail
  refine (rule_1 _).mono ?_
  rintro e w' ⟨rfl, rfl⟩
  go_wp2_with fail
  refine Calls.mono (HE.out IES _ (by decide) (below_drewN (Below.refl _ _) _)) ?_
  rintro e w' ⟨rfl, nq1, rfl⟩
  rw [h2]
  simp only [World.drewN_drewN]
  go_wp2
  rw [rounds_succ]
  go_wp2_with fail
  refine (rule_2 _).mono ?_
  rintro e w' ⟨rfl, rfl⟩
  go_wp2_with fail
  refine Calls.mono (HE.out SS _ (by decide) (below_drewN (Below.refl _ _) _)) ?_
  rintro e w' ⟨rfl, nq2, rfl⟩
  rw [h3]
  simp only [World.drewN_drewN]
  go_wp2
  rw [rounds_succ]
  go_wp2_with fail
  refine (rule_3 _).mono ?_
  rintro e w' ⟨rfl, rfl⟩
  go_wp2_with fail
  refine Calls.mono (HE.out S _ (by decide) (below_drewN (Below.refl _ _) _)) ?_
  rintro e w' ⟨rfl, nq3, rfl⟩
  rw [h4]
  simp only [World.drewN_drewN]
  go_wp2
  rw [rounds_succ]
  go_wp2_with fail
  refine (rule_2 _).mono ?_
  rintro e w' ⟨rfl, rfl⟩
  go_wp2_with fail
  rw [EN.out]
  refine Calls.mono (HJ.out _ (below_drewN (Below.refl _ _) _) rfl) ?_
  rintro e w' ⟨rfl, rfl⟩
  go_wp2
  go_ret
  exact ⟨_, rfl, rfl⟩

set_option maxHeartbeats 1000000 in
theorem model_D (b off n c : Nat) (zs : List Int) (hl : zs.length = n) (hn : n ≤ 1048576) (w : World) (ha : Row w (some ⟨b, off, none⟩) zs)
    (h1 : endsB zs (sb SSES) = false) (h2 : endsB zs (sb IES) = false) (h3 : endsB zs (sb SS) = false) (h4 : endsB zs (sb S) = true) (m : Nat) (hge : 1 ≤ n) (hm : n - 1 + (⟨#[]⟩ : ByteArray).size = m) (hL : zs.take (n - 1) ++ sb ⟨#[]⟩ = zs.take m) :
    Calls Try.prog 12 #[.slice (some ⟨b, off, none⟩) n c] w fun e w' => ∃ nq, e = .returned (.slice (some ⟨w.heap.size, 0, none⟩) m m) ∧ w' = (w.drewN nq).alloc (.cells (bs (zs.take m)) 5) := by
  have E : ∀ (s : ByteArray) (W : World), s.size ≤ 1048576 → Below w.heap.size w W → Calls Try.prog 21 #[.slice (some ⟨b, off, none⟩) n c, .string s] W fun e w' => e = .returned (.bool (endsB zs (sb s))) ∧ ∃ nq, w' = W.drewN nq := fun s W hs hW => ends_any _ n c zs hl hn s hs W (ha.below hW)
  have HE : Hid _ := E
  have J : ∀ W : World, Below w.heap.size w W → W.heap.size = w.heap.size → Calls Try.prog 30 #[.slice (some ⟨b, off, none⟩) n c, .int .i64 ((n - 1 : Nat) : Int), .string ⟨#[]⟩] W fun e w' => e = .returned (.slice (some ⟨w.heap.size, 0, none⟩) m m) ∧ w' = W.alloc (.cells (bs (zs.take m)) 5) := by
    intro W hW hs
    have := join_any (some ⟨b, off, none⟩) n c (n - 1) zs hl hn (by omega) ⟨#[]⟩ (by decide) W (ha.below hW)
    rwa [hm, hL, hs] at this
  have HJ : Hid _ := J
  have s1 := size_SSES
  have s2 := size_IES
  have s3 := size_SS
  have s4 := size_S
  have en : (n : Int) - 1 = ((n - 1 : Nat) : Int) := by omega
  have EN : Hid _ := en
  clear en hL hm
  clear E ha J
  go_enter Try.func12, Try.ntmps12
  go_wp2
  refine wp_loop_rounds 5 ?_
  rw [rounds_succ]
  go_wp2_with fail
  refine (rule_0 _).mono ?_
  rintro e w' ⟨rfl, rfl⟩
  go_wp2_with fail
  refine Calls.mono (HE.out SSES _ (by decide) (Below.refl _ _)) ?_
  rintro e w' ⟨rfl, nq0, rfl⟩
  rw [h1]
  go_wp2
  rw [rounds_succ]
  go_wp2_with fail
  refine (rule_1 _).mono ?_
  rintro e w' ⟨rfl, rfl⟩
  go_wp2_with fail
  refine Calls.mono (HE.out IES _ (by decide) (below_drewN (Below.refl _ _) _)) ?_
  rintro e w' ⟨rfl, nq1, rfl⟩
  rw [h2]
  simp only [World.drewN_drewN]
  go_wp2
  rw [rounds_succ]
  go_wp2_with fail
  refine (rule_2 _).mono ?_
  rintro e w' ⟨rfl, rfl⟩
  go_wp2_with fail
  refine Calls.mono (HE.out SS _ (by decide) (below_drewN (Below.refl _ _) _)) ?_
  rintro e w' ⟨rfl, nq2, rfl⟩
  rw [h3]
  simp only [World.drewN_drewN]
  go_wp2
  rw [rounds_succ]
  go_wp2_with fail
  refine (rule_3 _).mono ?_
  rintro e w' ⟨rfl, rfl⟩
  go_wp2_with fail
  refine Calls.mono (HE.out S _ (by decide) (below_drewN (Below.refl _ _) _)) ?_
  rintro e w' ⟨rfl, nq3, rfl⟩
  rw [h4]
  simp only [World.drewN_drewN]
  go_wp2
  rw [rounds_succ]
  go_wp2_with fail
  refine (rule_3 _).mono ?_
  rintro e w' ⟨rfl, rfl⟩
  go_wp2_with fail
  rw [EN.out]
  refine Calls.mono (HJ.out _ (below_drewN (Below.refl _ _) _) rfl) ?_
  rintro e w' ⟨rfl, rfl⟩
  go_wp2
  go_ret
  exact ⟨_, rfl, rfl⟩

set_option maxHeartbeats 1000000 in
theorem model_E (b off n c : Nat) (zs : List Int) (hl : zs.length = n) (hn : n ≤ 1048576) (w : World) (ha : Row w (some ⟨b, off, none⟩) zs)
    (h1 : endsB zs (sb SSES) = false) (h2 : endsB zs (sb IES) = false) (h3 : endsB zs (sb SS) = false) (h4 : endsB zs (sb S) = false) :
    Calls Try.prog 12 #[.slice (some ⟨b, off, none⟩) n c] w fun e w' => ∃ nq, e = .returned (.slice (some ⟨w.heap.size, 0, none⟩) n n) ∧ w' = (w.drewN nq).alloc (.cells (bs (zs.take n)) 5) := by
  have E : ∀ (s : ByteArray) (W : World), s.size ≤ 1048576 → Below w.heap.size w W → Calls Try.prog 21 #[.slice (some ⟨b, off, none⟩) n c, .string s] W fun e w' => e = .returned (.bool (endsB zs (sb s))) ∧ ∃ nq, w' = W.drewN nq := fun s W hs hW => ends_any _ n c zs hl hn s hs W (ha.below hW)
  have HE : Hid _ := E
  have J : ∀ W : World, Below w.heap.size w W → W.heap.size = w.heap.size → Calls Try.prog 11 #[.slice (some ⟨b, off, none⟩) n c] W fun e w' => e = .returned (.slice (some ⟨w.heap.size, 0, none⟩) n n) ∧ w' = W.alloc (.cells (bs (zs.take n)) 5) := by
    intro W hW hs
    have := copy_some ⟨b, off, none⟩ n c zs hl hn W (ha.below hW)
    rwa [hs, ← List.take_of_length_le (l := zs) (i := n) (by omega)] at this
  have HJ : Hid _ := J
  have s1 := size_SSES
  have s2 := size_IES
  have s3 := size_SS
  have s4 := size_S
  clear E ha J
  go_enter Try.func12, Try.ntmps12
  go_wp2
  refine wp_loop_rounds 5 ?_
  rw [rounds_succ]
  go_wp2_with fail
  refine (rule_0 _).mono ?_
  rintro e w' ⟨rfl, rfl⟩
  go_wp2_with fail
  refine Calls.mono (HE.out SSES _ (by decide) (Below.refl _ _)) ?_
  rintro e w' ⟨rfl, nq0, rfl⟩
  rw [h1]
  go_wp2
  rw [rounds_succ]
  go_wp2_with fail
  refine (rule_1 _).mono ?_
  rintro e w' ⟨rfl, rfl⟩
  go_wp2_with fail
  refine Calls.mono (HE.out IES _ (by decide) (below_drewN (Below.refl _ _) _)) ?_
  rintro e w' ⟨rfl, nq1, rfl⟩
  rw [h2]
  simp only [World.drewN_drewN]
  go_wp2
  rw [rounds_succ]
  go_wp2_with fail
  refine (rule_2 _).mono ?_
  rintro e w' ⟨rfl, rfl⟩
  go_wp2_with fail
  refine Calls.mono (HE.out SS _ (by decide) (below_drewN (Below.refl _ _) _)) ?_
  rintro e w' ⟨rfl, nq2, rfl⟩
  rw [h3]
  simp only [World.drewN_drewN]
  go_wp2
  rw [rounds_succ]
  go_wp2_with fail
  refine (rule_3 _).mono ?_
  rintro e w' ⟨rfl, rfl⟩
  go_wp2_with fail
  refine Calls.mono (HE.out S _ (by decide) (below_drewN (Below.refl _ _) _)) ?_
  rintro e w' ⟨rfl, nq3, rfl⟩
  rw [h4]
  simp only [World.drewN_drewN]
  go_wp2
  rw [rounds_succ]
  go_wp2_with fail
  refine Calls.mono (HJ.out _ (below_drewN (Below.refl _ _) _) rfl) ?_
  rintro e w' ⟨rfl, rfl⟩
  go_wp2
  go_ret
  exact ⟨_, rfl, rfl⟩

set_option maxHeartbeats 400000 in
theorem step_A (b off n c : Nat) (zs : List Int) (hl : zs.length = n) (hn : n ≤ 1048576) (hnc : n ≤ c) (hr : ∀ j, 0 ≤ nth zs j ∧ nth zs j ≤ 255) (w : World) (ha : Row w (some ⟨b, off, none⟩) zs)
    (h1 : endsB zs (sb SSES) = true) (h2 : endsB zs (sb IES) = false) (h3 : endsB zs (sb SS) = false) (h4 : endsB zs (sb S) = true) (hge : 2 ≤ n) :
    Calls Try.prog 31 #[.slice (some ⟨b, off, none⟩) n c] w fun e w' => e = .returned (.slice (some ⟨b, off, none⟩) (n - 2) c) ∧ w = w' := by
  have E : ∀ s : ByteArray, s.size ≤ 1048576 → Calls Try.prog 38 #[.slice (some ⟨b, off, none⟩) n c, .string s] w fun e w' => e = .returned (.bool (endsB zs (sb s))) ∧ w = w' := fun s hs => has_any b off n c zs hl hn hnc hr s hs w ha
  have HE : Hid _ := E
  clear E ha hr
  go_enter Try.func31, Try.ntmps31
  go_wp2_with fail
  refine Calls.mono (HE.out SSES (by decide)) ?_
  rintro e w' ⟨rfl, rfl⟩
  rw [h1]
  go_wp2
  go_ret
  exact ⟨rfl, rfl⟩

set_option maxHeartbeats 400000 in
theorem step_B (b off n c : Nat) (zs : List Int) (hl : zs.length = n) (hn : n ≤ 1048576) (hnc : n ≤ c) (hr : ∀ j, 0 ≤ nth zs j ∧ nth zs j ≤ 255) (w : World) (ha : Row w (some ⟨b, off, none⟩) zs)
    (h1 : endsB zs (sb SSES) = false) (h2 : endsB zs (sb IES) = true) (h3 : endsB zs (sb SS) = false) (h4 : endsB zs (sb S) = true) (hge : 2 ≤ n) :
    Calls Try.prog 31 #[.slice (some ⟨b, off, none⟩) n c] w fun e w' => e = .returned (.slice (some ⟨b, off, none⟩) (n - 2) c) ∧ w = w' := by
  have E : ∀ s : ByteArray, s.size ≤ 1048576 → Calls Try.prog 38 #[.slice (some ⟨b, off, none⟩) n c, .string s] w fun e w' => e = .returned (.bool (endsB zs (sb s))) ∧ w = w' := fun s hs => has_any b off n c zs hl hn hnc hr s hs w ha
  have HE : Hid _ := E
  clear E ha hr
  go_enter Try.func31, Try.ntmps31
  go_wp2_with fail
  refine Calls.mono (HE.out SSES (by decide)) ?_
  rintro e w' ⟨rfl, rfl⟩
  rw [h1]
  go_wp2_with fail
  refine Calls.mono (HE.out IES (by decide)) ?_
  rintro e w' ⟨rfl, rfl⟩
  rw [h2]
  go_wp2
  go_ret
  exact ⟨rfl, rfl⟩

set_option maxHeartbeats 400000 in
theorem step_C (b off n c : Nat) (zs : List Int) (hl : zs.length = n) (hn : n ≤ 1048576) (hnc : n ≤ c) (hr : ∀ j, 0 ≤ nth zs j ∧ nth zs j ≤ 255) (w : World) (ha : Row w (some ⟨b, off, none⟩) zs)
    (h1 : endsB zs (sb SSES) = false) (h2 : endsB zs (sb IES) = false) (h3 : endsB zs (sb SS) = true) (h4 : endsB zs (sb S) = true) (hge : 0 ≤ n) :
    Calls Try.prog 31 #[.slice (some ⟨b, off, none⟩) n c] w fun e w' => e = .returned (.slice (some ⟨b, off, none⟩) (n) c) ∧ w = w' := by
  have E : ∀ s : ByteArray, s.size ≤ 1048576 → Calls Try.prog 38 #[.slice (some ⟨b, off, none⟩) n c, .string s] w fun e w' => e = .returned (.bool (endsB zs (sb s))) ∧ w = w' := fun s hs => has_any b off n c zs hl hn hnc hr s hs w ha
  have HE : Hid _ := E
  clear E ha hr
  go_enter Try.func31, Try.ntmps31
  go_wp2_with fail
  refine Calls.mono (HE.out SSES (by decide)) ?_
  rintro e w' ⟨rfl, rfl⟩
  rw [h1]
  go_wp2_with fail
  refine Calls.mono (HE.out IES (by decide)) ?_
  rintro e w' ⟨rfl, rfl⟩
  rw [h2]
  go_wp2_with fail
  refine Calls.mono (HE.out SS (by decide)) ?_
  rintro e w' ⟨rfl, rfl⟩
  rw [h3]
  go_wp2
  go_ret
  exact ⟨rfl, rfl⟩

set_option maxHeartbeats 400000 in
theorem step_D (b off n c : Nat) (zs : List Int) (hl : zs.length = n) (hn : n ≤ 1048576) (hnc : n ≤ c) (hr : ∀ j, 0 ≤ nth zs j ∧ nth zs j ≤ 255) (w : World) (ha : Row w (some ⟨b, off, none⟩) zs)
    (h1 : endsB zs (sb SSES) = false) (h2 : endsB zs (sb IES) = false) (h3 : endsB zs (sb SS) = false) (h4 : endsB zs (sb S) = true) (hge : 1 ≤ n) :
    Calls Try.prog 31 #[.slice (some ⟨b, off, none⟩) n c] w fun e w' => e = .returned (.slice (some ⟨b, off, none⟩) (n - 1) c) ∧ w = w' := by
  have E : ∀ s : ByteArray, s.size ≤ 1048576 → Calls Try.prog 38 #[.slice (some ⟨b, off, none⟩) n c, .string s] w fun e w' => e = .returned (.bool (endsB zs (sb s))) ∧ w = w' := fun s hs => has_any b off n c zs hl hn hnc hr s hs w ha
  have HE : Hid _ := E
  clear E ha hr
  go_enter Try.func31, Try.ntmps31
  go_wp2_with fail
  refine Calls.mono (HE.out SSES (by decide)) ?_
  rintro e w' ⟨rfl, rfl⟩
  rw [h1]
  go_wp2_with fail
  refine Calls.mono (HE.out IES (by decide)) ?_
  rintro e w' ⟨rfl, rfl⟩
  rw [h2]
  go_wp2_with fail
  refine Calls.mono (HE.out SS (by decide)) ?_
  rintro e w' ⟨rfl, rfl⟩
  rw [h3]
  go_wp2_with fail
  refine Calls.mono (HE.out S (by decide)) ?_
  rintro e w' ⟨rfl, rfl⟩
  rw [h4]
  go_wp2
  go_ret
  exact ⟨rfl, rfl⟩

set_option maxHeartbeats 400000 in
theorem step_E (b off n c : Nat) (zs : List Int) (hl : zs.length = n) (hn : n ≤ 1048576) (hnc : n ≤ c) (hr : ∀ j, 0 ≤ nth zs j ∧ nth zs j ≤ 255) (w : World) (ha : Row w (some ⟨b, off, none⟩) zs)
    (h1 : endsB zs (sb SSES) = false) (h2 : endsB zs (sb IES) = false) (h3 : endsB zs (sb SS) = false) (h4 : endsB zs (sb S) = false) (hge : 0 ≤ n) :
    Calls Try.prog 31 #[.slice (some ⟨b, off, none⟩) n c] w fun e w' => e = .returned (.slice (some ⟨b, off, none⟩) (n) c) ∧ w = w' := by
  have E : ∀ s : ByteArray, s.size ≤ 1048576 → Calls Try.prog 38 #[.slice (some ⟨b, off, none⟩) n c, .string s] w fun e w' => e = .returned (.bool (endsB zs (sb s))) ∧ w = w' := fun s hs => has_any b off n c zs hl hn hnc hr s hs w ha
  have HE : Hid _ := E
  clear E ha hr
  go_enter Try.func31, Try.ntmps31
  go_wp2_with fail
  refine Calls.mono (HE.out SSES (by decide)) ?_
  rintro e w' ⟨rfl, rfl⟩
  rw [h1]
  go_wp2_with fail
  refine Calls.mono (HE.out IES (by decide)) ?_
  rintro e w' ⟨rfl, rfl⟩
  rw [h2]
  go_wp2_with fail
  refine Calls.mono (HE.out SS (by decide)) ?_
  rintro e w' ⟨rfl, rfl⟩
  rw [h3]
  go_wp2_with fail
  refine Calls.mono (HE.out S (by decide)) ?_
  rintro e w' ⟨rfl, rfl⟩
  rw [h4]
  go_wp2
  go_ret
  exact ⟨rfl, rfl⟩

theorem leaves_le (zs : List Int) : leaves zs ≤ zs.length := by
  unfold leaves
  repeat' split
  all_goals omega

theorem model_any (b off n c : Nat) (zs : List Int) (hl : zs.length = n) (hn : n ≤ 1048576) (w : World) (ha : Row w (some ⟨b, off, none⟩) zs) :
    Calls Try.prog 12 #[.slice (some ⟨b, off, none⟩) n c] w fun e w' => ∃ nq, e = .returned (.slice (some ⟨w.heap.size, 0, none⟩) (leaves zs) (leaves zs)) ∧ w' = (w.drewN nq).alloc (.cells (bs (zs.take (leaves zs))) 5) := by
  cases h1 : endsB zs (sb SSES) with
  | true =>
    obtain ⟨h2, h3, h4, h5, h6⟩ := ofA h1
    have e : leaves zs = zs.length - 2 := by simp [leaves, h1]
    rw [e, hl]
    rw [hl] at h5 h6
    exact model_A b off n c zs hl hn w ha h1 h2 h3 h4 (n - 2) h5 (by rw [size_SS]; omega) h6
  | false =>
  cases h2 : endsB zs (sb IES) with
  | true =>
    obtain ⟨h3, h4, h5, h6⟩ := ofB h2
    have e : leaves zs = zs.length - 2 := by simp [leaves, h1, h2]
    rw [e, hl]
    rw [hl] at h5 h6
    exact model_B b off n c zs hl hn w ha h1 h2 h3 h4 (n - 2) h5 (by have : (⟨#[105]⟩ : ByteArray).size = 1 := rfl; rw [this]; omega) h6
  | false =>
  cases h3 : endsB zs (sb SS) with
  | true =>
    obtain ⟨h4, h5, h6⟩ := ofC h3
    have e : leaves zs = zs.length := by simp [leaves, h1, h2, h3]
    rw [e, hl]
    rw [hl] at h5 h6
    exact model_C b off n c zs hl hn w ha h1 h2 h3 h4 n h5 (by rw [size_SS]; omega) (by rw [h6, List.take_of_length_le (by omega)])
  | false =>
  cases h4 : endsB zs (sb S) with
  | true =>
    have h5 := ofD h4
    have e : leaves zs = zs.length - 1 := by simp [leaves, h1, h2, h3, h4]
    rw [e, hl]
    rw [hl] at h5
    exact model_D b off n c zs hl hn w ha h1 h2 h3 h4 (n - 1) h5 (by have : (⟨#[]⟩ : ByteArray).size = 0 := rfl; rw [this]; omega) (by have : sb ⟨#[]⟩ = [] := rfl; rw [this, List.append_nil])
  | false =>
    have e : leaves zs = zs.length := by simp [leaves, h1, h2, h3, h4]
    rw [e, hl]
    exact model_E b off n c zs hl hn w ha h1 h2 h3 h4

theorem step_any (b off n c : Nat) (zs : List Int) (hl : zs.length = n) (hn : n ≤ 1048576) (hnc : n ≤ c) (hr : ∀ j, 0 ≤ nth zs j ∧ nth zs j ≤ 255) (w : World) (ha : Row w (some ⟨b, off, none⟩) zs) :
    Calls Try.prog 31 #[.slice (some ⟨b, off, none⟩) n c] w fun e w' => e = .returned (.slice (some ⟨b, off, none⟩) (leaves zs) c) ∧ w = w' := by
  cases h1 : endsB zs (sb SSES) with
  | true =>
    obtain ⟨h2, h3, h4, h5, h6⟩ := ofA h1
    have e : leaves zs = zs.length - 2 := by simp [leaves, h1]
    rw [e, hl]
    exact step_A b off n c zs hl hn hnc hr w ha h1 h2 h3 h4 (by omega)
  | false =>
  cases h2 : endsB zs (sb IES) with
  | true =>
    obtain ⟨h3, h4, h5, h6⟩ := ofB h2
    have e : leaves zs = zs.length - 2 := by simp [leaves, h1, h2]
    rw [e, hl]
    exact step_B b off n c zs hl hn hnc hr w ha h1 h2 h3 h4 (by omega)
  | false =>
  cases h3 : endsB zs (sb SS) with
  | true =>
    obtain ⟨h4, h5, h6⟩ := ofC h3
    have e : leaves zs = zs.length := by simp [leaves, h1, h2, h3]
    rw [e, hl]
    exact step_C b off n c zs hl hn hnc hr w ha h1 h2 h3 h4 (by omega)
  | false =>
  cases h4 : endsB zs (sb S) with
  | true =>
    have h5 := ofD h4
    have e : leaves zs = zs.length - 1 := by simp [leaves, h1, h2, h3, h4]
    rw [e, hl]
    exact step_D b off n c zs hl hn hnc hr w ha h1 h2 h3 h4 (by omega)
  | false =>
    have e : leaves zs = zs.length := by simp [leaves, h1, h2, h3, h4]
    rw [e, hl]
    exact step_E b off n c zs hl hn hnc hr w ha h1 h2 h3 h4 (by omega)

theorem zzstep_any (b off n c : Nat) (zs : List Int) (hl : zs.length = n) (hn : n ≤ 1048576) (hnc : n ≤ c) (hr : ∀ j, 0 ≤ nth zs j ∧ nth zs j ≤ 255) (w : World) (ha : Row w (some ⟨b, off, none⟩) zs) :
    Calls Try.prog 13 #[.slice (some ⟨b, off, none⟩) n c] w fun e w' => e = .returned (.slice (some ⟨b, off, none⟩) (leaves zs) c) ∧ w = w' := by
  have C : Hid _ := step_any b off n c zs hl hn hnc hr w ha
  clear hr ha
  go_enter Try.func13, Try.ntmps13
  go_wp2_with fail
  refine Calls.mono C.out ?_
  rintro e w' ⟨rfl, rfl⟩
  go_wp2
  go_ret
  exact ⟨rfl, rfl⟩

/-! ### The nil word -/
set_option maxHeartbeats 1000000 in
theorem model_nil (w : World) : Calls Try.prog 12 #[.slice none 0 0] w fun e w' => ∃ nq, e = .returned (.slice none 0 0) ∧ w' = w.drewN nq := by
  have E : ∀ (s : ByteArray) (W : World), s.size ≤ 1048576 → Calls Try.prog 21 #[.slice none 0 0, .string s] W fun e w' => e = .returned (.bool (endsB [] (sb s))) ∧ ∃ nq, w' = W.drewN nq := fun s W hs => ends_any none 0 0 [] rfl (by omega) s hs W (Row.nil _ _)
  have HE : Hid _ := E
  have h1 : endsB [] (sb SSES) = false := by decide
  have h2 : endsB [] (sb IES) = false := by decide
  have h3 : endsB [] (sb SS) = false := by decide
  have h4 : endsB [] (sb S) = false := by decide
  have s1 := size_SSES
  have s2 := size_IES
  have s3 := size_SS
  have s4 := size_S
  clear E
  go_enter Try.func12, Try.ntmps12
  go_wp2
  refine wp_loop_rounds 5 ?_
  rw [rounds_succ]
  go_wp2_with fail
  refine (rule_0 _).mono ?_
  rintro e w' ⟨rfl, rfl⟩
  go_wp2_with fail
  refine Calls.mono (HE.out SSES _ (by decide)) ?_
  rintro e w' ⟨rfl, nq0, rfl⟩
  rw [h1]
  go_wp2
  rw [rounds_succ]
  go_wp2_with fail
  refine (rule_1 _).mono ?_
  rintro e w' ⟨rfl, rfl⟩
  go_wp2_with fail
  refine Calls.mono (HE.out IES _ (by decide)) ?_
  rintro e w' ⟨rfl, nq1, rfl⟩
  rw [h2]
  simp only [World.drewN_drewN]
  go_wp2
  rw [rounds_succ]
  go_wp2_with fail
  refine (rule_2 _).mono ?_
  rintro e w' ⟨rfl, rfl⟩
  go_wp2_with fail
  refine Calls.mono (HE.out SS _ (by decide)) ?_
  rintro e w' ⟨rfl, nq2, rfl⟩
  rw [h3]
  simp only [World.drewN_drewN]
  go_wp2
  rw [rounds_succ]
  go_wp2_with fail
  refine (rule_3 _).mono ?_
  rintro e w' ⟨rfl, rfl⟩
  go_wp2_with fail
  refine Calls.mono (HE.out S _ (by decide)) ?_
  rintro e w' ⟨rfl, nq3, rfl⟩
  rw [h4]
  simp only [World.drewN_drewN]
  go_wp2
  rw [rounds_succ]
  go_wp2_with fail
  refine (copy_nil _).mono ?_
  rintro e w' ⟨rfl, rfl⟩
  go_wp2
  go_ret
  exact ⟨_, rfl, rfl⟩

theorem zzstep_nil (w : World) : Calls Try.prog 13 #[.slice none 0 0] w fun e w' => e = .returned (.slice none 0 0) ∧ w = w' := by
  have C : Hid (Calls Try.prog 31 #[.slice none 0 0] w fun e w' => e = .returned (.slice none 0 0) ∧ w = w') := by
    go_enter Try.func31, Try.ntmps31
    go_wp2_with fail
    refine (has_nil SSES (by decide) (by decide) _).mono ?_
    rintro e w' ⟨rfl, rfl⟩
    go_wp2_with fail
    refine (has_nil IES (by decide) (by decide) _).mono ?_
    rintro e w' ⟨rfl, rfl⟩
    go_wp2_with fail
    refine (has_nil SS (by decide) (by decide) _).mono ?_
    rintro e w' ⟨rfl, rfl⟩
    go_wp2_with fail
    refine (has_nil S (by decide) (by decide) _).mono ?_
    rintro e w' ⟨rfl, rfl⟩
    go_wp2
    go_ret
    exact ⟨rfl, rfl⟩
  go_enter Try.func13, Try.ntmps13
  go_wp2_with fail
  refine Calls.mono C.out ?_
  rintro e w' ⟨rfl, rfl⟩
  go_wp2
  go_ret
  exact ⟨rfl, rfl⟩

/-! ### The law -/
theorem zzb10 (a : Option Addr) (n c : Nat) (hn : n ≤ 1048576) (w : World) : Calls Try.prog 10 #[.slice a n c] w fun e w' => e = .returned (.bool true) ∧ w = w' := by
  go_enter Try.func10, Try.ntmps10
  go_wp2
  go_ret
  exact ⟨rfl, rfl⟩
theorem zzb10_no (a : Option Addr) (n c : Nat) (hn : 1048576 < n) (hm : n ≤ 9223372036854775807) (w : World) : Calls Try.prog 10 #[.slice a n c] w fun e w' => e = .returned (.bool false) ∧ w = w' := by
  go_enter Try.func10, Try.ntmps10
  go_wp2
  go_ret
  exact ⟨rfl, rfl⟩

theorem lawA_long (a : Option Addr) (n c : Nat) (hn : 1048576 < n) (hm : n ≤ 9223372036854775807) (w : World) : Calls Try.prog 3 #[.slice a n c] w fun e w' => e = .returned (.bool true) ∧ Below w.heap.size w w' := by
  go_enter Try.func3, Try.ntmps3
  go_wp2_with fail
  refine (zzb10_no _ _ _ hn hm _).mono ?_
  rintro e w' ⟨rfl, rfl⟩
  go_wp2
  go_ret
  exact ⟨rfl, Below.refl _ _⟩

theorem lawA_nil (w : World) : Calls Try.prog 3 #[.slice none 0 0] w fun e w' => e = .returned (.bool true) ∧ Below w.heap.size w w' := by
  go_enter Try.func3, Try.ntmps3
  go_wp2_with fail
  refine (zzb10 _ _ _ (by omega) _).mono ?_
  rintro e w' ⟨rfl, rfl⟩
  go_wp2_with fail
  refine (copy_nil _).mono ?_
  rintro e w' ⟨rfl, rfl⟩
  go_wp2_with fail
  refine (copy_nil _).mono ?_
  rintro e w' ⟨rfl, rfl⟩
  go_wp2_with fail
  refine (model_nil _).mono ?_
  rintro e w' ⟨nq, rfl, rfl⟩
  go_wp2_with fail
  refine (zzstep_nil _).mono ?_
  rintro e w' ⟨rfl, rfl⟩
  go_wp2_with fail
  refine (same_eq none none 0 0 0 [] rfl (by omega) _ (Row.nil _ _) (Row.nil _ _)).mono ?_
  rintro e w' ⟨rfl, nq1, rfl⟩
  go_wp2_with fail
  refine (same_eq none none 0 0 0 [] rfl (by omega) _ (Row.nil _ _) (Row.nil _ _)).mono ?_
  rintro e w' ⟨rfl, nq2, rfl⟩
  go_wp2
  go_ret
  exact ⟨rfl, by repeat (first | with_reducible exact Below.refl _ _ | with_reducible refine below_drewN ?_ _ | with_reducible refine below_new ?_ _)⟩

set_option maxHeartbeats 1000000 in
theorem lawA_some (x : Addr) (n c : Nat) (zs : List Int) (hl : zs.length = n) (hn : n ≤ 1048576) (hr : ∀ j, 0 ≤ nth zs j ∧ nth zs j ≤ 255) (w : World) (ha : Row w (some x) zs) :
    Calls Try.prog 3 #[.slice (some x) n c] w fun e w' => e = .returned (.bool true) ∧ Below w.heap.size w w' := by
  have HA : Hid _ := ha
  have HR : Hid _ := hr
  clear ha hr
  go_enter Try.func3, Try.ntmps3
  go_wp2_with fail
  refine (zzb10 _ _ _ hn _).mono ?_
  rintro e w' ⟨rfl, rfl⟩
  go_wp2_with fail
  refine (copy_some x n c zs hl hn _ HA.out).mono ?_
  rintro e w' ⟨rfl, rfl⟩
  have R1 : Hid (Row (w.alloc (.cells (bs zs) 5)) (some ⟨w.heap.size, 0, none⟩) zs) := Row.new w zs
  go_wp2_with fail
  refine (copy_some _ n n zs hl hn _ R1.out).mono ?_
  rintro e w' ⟨rfl, rfl⟩
  have R2 : Hid (Row ((w.alloc (.cells (bs zs) 5)).alloc (.cells (bs zs) 5)) (some ⟨w.heap.size + 1, 0, none⟩) zs) := by
    unfold Hid
    simpa using Row.new (w.alloc (.cells (bs zs) 5)) zs
  go_wp2_with fail
  refine (model_any _ _ n n zs hl hn _ (Row.below R1.out (by repeat (first | with_reducible exact Below.refl _ _ | with_reducible refine below_drewN ?_ _ | with_reducible refine below_new ?_ _)))).mono ?_
  rintro e w' ⟨nq, rfl, rfl⟩
  have R3 : Hid (Row ((((w.alloc (.cells (bs zs) 5)).alloc (.cells (bs zs) 5)).drewN nq).alloc (.cells (bs (zs.take (leaves zs))) 5)) (some ⟨w.heap.size + 1 + 1, 0, none⟩) (zs.take (leaves zs))) := by
    unfold Hid
    simpa using Row.new (((w.alloc (.cells (bs zs) 5)).alloc (.cells (bs zs) 5)).drewN nq) (zs.take (leaves zs))
  go_wp2_with fail
  refine (zzstep_any _ _ n n zs hl hn (Nat.le_refl _) HR.out _ (Row.below R2.out (by repeat (first | with_reducible exact Below.refl _ _ | with_reducible refine below_drewN ?_ _ | with_reducible refine below_new ?_ _)))).mono ?_
  rintro e w' ⟨rfl, rfl⟩
  go_wp2_with fail
  have hle := leaves_le zs
  refine (same_eq _ _ (leaves zs) n (leaves zs) (zs.take (leaves zs)) (by simp; omega) (by omega) _ (Row.take (Row.below R2.out (by repeat (first | with_reducible exact Below.refl _ _ | with_reducible refine below_drewN ?_ _ | with_reducible refine below_new ?_ _))) _) R3.out).mono ?_
  rintro e w' ⟨rfl, nq1, rfl⟩
  go_wp2_with fail
  refine (same_eq _ _ n n n zs hl (by omega) _ (Row.below R2.out (by repeat (first | with_reducible exact Below.refl _ _ | with_reducible refine below_drewN ?_ _ | with_reducible refine below_new ?_ _))) (Row.below R1.out (by repeat (first | with_reducible exact Below.refl _ _ | with_reducible refine below_drewN ?_ _ | with_reducible refine below_new ?_ _)))).mono ?_
  rintro e w' ⟨rfl, nq2, rfl⟩
  go_wp2
  go_ret
  exact ⟨rfl, (by repeat (first | with_reducible exact Below.refl _ _ | with_reducible refine below_drewN ?_ _ | with_reducible refine below_new ?_ _))⟩
end Go.Proofs.Qxb6601935a
