/-
  The walk of FnParseBasicHeaderReadsEveryWrittenHeader.
-/
import Derived.Test.Qxb6601910aCase
namespace Go.Proofs.Qxb6601910a
open Go.RowKit

theorem zzb11 (f i : Int) (a : Option Addr) (n c : Nat) (hn : n ≤ 1048576) (w : World) : Calls Try.prog 11 #[.int .u8 f, .int .u32 i, .slice a n c] w fun e w' => e = .returned (.bool true) ∧ w = w' := by
  go_enter Try.func11, Try.ntmps11
  go_wp2
  go_ret
  exact ⟨rfl, rfl⟩

theorem zzb11_no (f i : Int) (a : Option Addr) (n c : Nat) (hn : 1048576 < n) (hm : n ≤ 9223372036854775807) (w : World) : Calls Try.prog 11 #[.int .u8 f, .int .u32 i, .slice a n c] w fun e w' => e = .returned (.bool false) ∧ w = w' := by
  go_enter Try.func11, Try.ntmps11
  go_wp2
  go_ret
  exact ⟨rfl, rfl⟩

set_option maxHeartbeats 1000000 in
theorem reads_core (f i : Int) (f0 : 0 ≤ f) (f1 : f ≤ 3) (i0 : 2 ≤ i) (i1 : i ≤ 65599) (a : Option Addr) (n c : Nat) (hn : n ≤ 1048576) (w : World) (k : Nat) (L : List Int)
    (hk : shK i = (k : Int)) (k1 : 1 ≤ k) (k3 : k ≤ 3) (hL : L.length = k + n)
    (hh : ∀ j, j < k → [Value.int .u8 (sh0 f i), Value.int .u8 (sh1 i), Value.int .u8 (sh2 i)][j]? = some (.int .u8 (L.getD j 0)))
    (ht : ∀ j, j < n → ∃ b off, a = some ⟨b, off, none⟩ ∧ b < w.heap.size ∧ w.cell? ⟨b, off + j, none⟩ = some (.int .u8 (L.getD (k + j) 0)))
    (hr : ∀ j, 0 ≤ L.getD j 0 ∧ L.getD j 0 ≤ 255) (pF : phF (L.getD 0 0) (k + n) = f) (pI : phI (L.getD 0 0) (L.getD 1 0) (L.getD 2 0) (k + n) = i) (pK : phK (L.getD 0 0) = (k : Int)) :
    Calls Try.prog 4 #[.int .u8 f, .int .u32 i, .slice a n c] w fun e w' => e = .returned (.bool true) ∧ Below w.heap.size w w' := by
  obtain ⟨i0', hi, hi1, hi2, hi3⟩ := info_parts Try.info5
  have HH : Hid _ := hh
  have HT : Hid _ := ht
  have HR : Hid _ := hr
  have PF : Hid _ := pF
  have PI : Hid _ := pI
  have PK : Hid _ := pK
  have HK : Hid _ := hk
  clear hh ht hr pF pI pK hk
  go_enter Try.func4, Try.ntmps4
  go_wp2_with fail
  refine (zzb11 _ _ _ _ _ hn _).mono ?_
  rintro e w' ⟨rfl, rfl⟩
  go_wp2_with fail
  refine (sh_any f i f0 f1 (by omega) i1 _).mono ?_
  rintro e w' ⟨rfl, rfl⟩
  rw [HK.out]
  go_wp2_with (at_make; refine wpList_make_bytes _ rfl _ _ 22 rfl 5 i0' Try.underlying22 hi hi1 hi2 hi3 _ _ _ _ (k + n) rfl rfl (by omega) (by omega) (by omega) ?_)
  have q0 : ∀ j, (((w.alloc (Obj.cells #[Value.int IntKind.u8 (sh0 f i), Value.int IntKind.u8 (sh1 i), Value.int IntKind.u8 (sh2 i)] 29)).alloc (Obj.cells #[Value.int IntKind.u8 (sh0 f i), Value.int IntKind.u8 (sh1 i), Value.int IntKind.u8 (sh2 i)] 29)).alloc (Obj.cells #[Value.int IntKind.u8 (sh0 f i), Value.int IntKind.u8 (sh1 i), Value.int IntKind.u8 (sh2 i)] 29)).cell? ⟨w.heap.size + 1 + 1, j, none⟩ = [Value.int .u8 (sh0 f i), Value.int .u8 (sh1 i), Value.int .u8 (sh2 i)][j]? := by
    intro j
    rw [World.cell?_alloc_at _ _ _ _ (by simp)]
    simp
  generalize hH : (Obj.cells #[Value.int IntKind.u8 (sh0 f i), Value.int IntKind.u8 (sh1 i), Value.int IntKind.u8 (sh2 i)] 29) = H at q0 ⊢
  clear hH
  have Q0 : Hid (∀ j, j < k → (((w.alloc H).alloc H).alloc H).cell? ⟨w.heap.size + 1 + 1, j, none⟩ = some (.int .u8 (L.getD j 0))) := fun j hj => (q0 j).trans (HH.out j hj)
  clear q0 HH
  go_loopw [10] (fun i wr => ∃ j : Nat, j ≤ k ∧ i = .int .i64 j ∧ wr = (((w.alloc H).alloc H).alloc H).alloc (.cells (bs (fillTo L (k + n) j)) 5)) (fun i _ => k - (intOf i).toNat)
  case atStart => exact ⟨0, by omega, rfl, by rw [fillTo_zero]⟩
  case round =>
    obtain ⟨j, hj, rfl, rfl⟩ := hrel
    by_cases hlt : j < k
    · have q1 : (((w.alloc H).alloc H).alloc H).cell? ⟨w.heap.size + 1 + 1, j, none⟩ = some (.int .u8 (L.getD j 0)) := Q0.out j hlt
      have q2 := bs_get (fillTo L (k + n) j) j (by rw [length_fillTo _ _ _ (by omega) (by omega)]; omega)
      have q3 : (bs (fillTo L (k + n) j)).setIfInBounds j (.int .u8 (L.getD j 0)) = bs (fillTo L (k + n) (j + 1)) := by rw [bs_set, fillTo_step _ _ _ (by omega) (by omega)]
      go_wp2
      go_roundw
      case rel => exact ⟨j + 1, by omega, by go_num, by rw [← q3]; rfl⟩
      case measure => simp [intOf]; omega
    · obtain rfl : j = k := by omega
      clear hlt Q0
      go_wp2
      go_loopw [11] (fun i wr => ∃ t : Nat, t ≤ n ∧ i = .int .i64 t ∧ wr = (((w.alloc H).alloc H).alloc H).alloc (.cells (bs (fillTo L (j + n) (j + t))) 5)) (fun i _ => n - (intOf i).toNat)
      case atStart => exact ⟨0, by omega, rfl, rfl⟩
      case round =>
        obtain ⟨t, ht, rfl, rfl⟩ := hrel
        by_cases hlt : t < n
        · obtain ⟨b, off, rfl, hb, hc⟩ := HT.out t hlt
          have q2 := bs_get (fillTo L (j + n) (j + t)) (j + t) (by rw [length_fillTo _ _ _ (by omega) (by omega)]; omega)
          have q3 : (bs (fillTo L (j + n) (j + t))).setIfInBounds (j + t) (.int .u8 (L.getD (j + t) 0)) = bs (fillTo L (j + n) (j + (t + 1))) := by rw [bs_set, fillTo_step _ _ _ (by omega) (by omega)]; rfl
          generalize L.getD (j + t) 0 = v at hc q3
          have b1 : b < w.heap.size + 1 := by omega
          have b2 : b < w.heap.size + 1 + 1 := by omega
          have b3 : b < w.heap.size + 1 + 1 + 1 := by omega
          go_wp2
          go_roundw
          case rel => exact ⟨t + 1, by omega, by go_num, rfl⟩
          case measure => simp [intOf]; omega
        · obtain rfl : t = n := by omega
          clear hlt
          go_wp2_with fail
          rw [fillTo_all L (j + t) hL]
          have P := zzph_bs (((w.alloc H).alloc H).alloc H) L (j + t) _ _ _ hL (by omega) rfl rfl rfl HR.out
          rw [PF.out, PI.out, PK.out] at P
          simp only [World.size_alloc] at P
          refine P.mono ?_
          rintro e w' ⟨rfl, rfl⟩
          go_wp2
          go_ret
          exact ⟨rfl, by repeat (first | exact Below.refl _ _ | refine below_drewN ?_ _ | refine below_new ?_ _)⟩

theorem getD_cons_add (A B : List Int) (j : Nat) : (A ++ B).getD (A.length + j) 0 = B.getD j 0 := by
  simp [List.getD, List.getElem?_append_right (Nat.le_add_right A.length j)]

theorem reads_any (f i : Int) (f0 : 0 ≤ f) (f1 : f ≤ 3) (i0 : 2 ≤ i) (i1 : i ≤ 65599) (a : Option Addr) (n c : Nat) (hn : n ≤ 1048576) (w : World) (T : List Int) (hT : T.length = n)
    (ht : ∀ j, j < n → ∃ b off, a = some ⟨b, off, none⟩ ∧ b < w.heap.size ∧ w.cell? ⟨b, off + j, none⟩ = some (.int .u8 (T.getD j 0))) (hr : ∀ j, 0 ≤ T.getD j 0 ∧ T.getD j 0 ≤ 255) :
    Calls Try.prog 4 #[.int .u8 f, .int .u32 i, .slice a n c] w fun e w' => e = .returned (.bool true) ∧ Below w.heap.size w w' := by
  by_cases a1 : i < 64
  · have e0 : sh0 f i = f * 64 + i := by rw [sh0, if_pos a1]
    have e3 : shK i = 1 := by rw [shK, if_pos a1]
    have m : (f * 64 + i) % 64 = i := by omega
    have p1 : phK (f * 64 + i) = 1 := by rw [phK, m, if_neg (by omega), if_neg (by omega)]
    refine reads_core f i f0 f1 i0 i1 a n c hn w 1 ([f * 64 + i] ++ T) e3 (by omega) (by omega) (by simp [hT]; omega) ?_ ?_ ?_ ?_ ?_ p1
    · intro j hj
      obtain rfl : j = 0 := by omega
      simp [e0]
    · intro j hj
      have := getD_cons_add [f * 64 + i] T j
      simp only [List.length_cons, List.length_nil, Nat.zero_add] at this
      rw [this]
      exact ht j hj
    · intro j
      match j with
      | 0 => simp; omega
      | j + 1 => simpa using hr j
    · show phF (f * 64 + i) (1 + n) = f
      rw [phF, p1, if_neg (by omega)]; omega
    · show phI (f * 64 + i) _ _ (1 + n) = i
      rw [phI, p1, if_neg (by omega), m, if_neg (by omega), if_neg (by omega)]
  by_cases a2 : i < 320
  · have e0 : sh0 f i = f * 64 := by rw [sh0, if_neg a1, if_pos a2]
    have e1 : sh1 i = i - 64 := by rw [sh1, if_neg a1, if_pos a2]
    have e3 : shK i = 2 := by rw [shK, if_neg a1, if_pos a2]
    have m : (f * 64) % 64 = 0 := by omega
    have p1 : phK (f * 64) = 2 := by rw [phK, m, if_pos rfl]
    refine reads_core f i f0 f1 i0 i1 a n c hn w 2 ([f * 64, i - 64] ++ T) e3 (by omega) (by omega) (by simp [hT]; omega) ?_ ?_ ?_ ?_ ?_ p1
    · intro j hj
      match j, hj with
      | 0, _ => simp [e0]
      | 1, _ => simp [e1]
    · intro j hj
      have := getD_cons_add [f * 64, i - 64] T j
      simp only [List.length_cons, List.length_nil, Nat.zero_add] at this
      rw [this]
      exact ht j hj
    · intro j
      match j with
      | 0 => simp; omega
      | 1 => simp; omega
      | j + 2 => simpa using hr j
    · show phF (f * 64) (2 + n) = f
      rw [phF, p1, if_neg (by omega)]; omega
    · show phI (f * 64) (i - 64) _ (2 + n) = i
      rw [phI, p1, if_neg (by omega), if_pos m]; omega
  · have e0 : sh0 f i = f * 64 + 1 := by rw [sh0, if_neg a1, if_neg a2]
    have e1 : sh1 i = (i - 64) % 256 := by rw [sh1, if_neg a1, if_neg a2]
    have e2 : sh2 i = (i - 64) / 256 := by rw [sh2, if_neg a2]
    have e3 : shK i = 3 := by rw [shK, if_neg a1, if_neg a2]
    have m : (f * 64 + 1) % 64 = 1 := by omega
    have p1 : phK (f * 64 + 1) = 3 := by rw [phK, m, if_neg (by omega), if_pos rfl]
    refine reads_core f i f0 f1 i0 i1 a n c hn w 3 ([f * 64 + 1, (i - 64) % 256, (i - 64) / 256] ++ T) e3 (by omega) (by omega) (by simp [hT]; omega) ?_ ?_ ?_ ?_ ?_ p1
    · intro j hj
      match j, hj with
      | 0, _ => simp [e0]
      | 1, _ => simp [e1]
      | 2, _ => simp [e2]
    · intro j hj
      have := getD_cons_add [f * 64 + 1, (i - 64) % 256, (i - 64) / 256] T j
      simp only [List.length_cons, List.length_nil, Nat.zero_add] at this
      rw [this]
      exact ht j hj
    · intro j
      match j with
      | 0 => simp; omega
      | 1 => simp; omega
      | 2 => simp; omega
      | j + 3 => simpa using hr j
    · show phF (f * 64 + 1) (3 + n) = f
      rw [phF, p1, if_neg (by omega)]; omega
    · show phI (f * 64 + 1) ((i - 64) % 256) ((i - 64) / 256) (3 + n) = i
      rw [phI, p1, if_neg (by omega), m, if_neg (by omega), if_pos rfl]; omega

/-- A tail that is too long. -/
theorem reads_long (f i : Int) (a : Option Addr) (n c : Nat) (hn : 1048576 < n) (hm : n ≤ 9223372036854775807) (w : World) :
    Calls Try.prog 4 #[.int .u8 f, .int .u32 i, .slice a n c] w fun e w' => e = .returned (.bool true) ∧ Below w.heap.size w w' := by
  go_enter Try.func4, Try.ntmps4
  go_wp2_with fail
  refine (zzb11_no _ _ _ _ _ hn hm _).mono ?_
  rintro e w' ⟨rfl, rfl⟩
  go_wp2
  go_ret
  exact ⟨rfl, Below.refl _ _⟩

/-- A format or an id that no header bears. -/
theorem reads_out (f i : Int) (a : Option Addr) (n c : Nat) (hn : n ≤ 1048576) (ho : 3 < f ∨ i < 2 ∨ 65599 < i) (w : World) :
    Calls Try.prog 4 #[.int .u8 f, .int .u32 i, .slice a n c] w fun e w' => e = .returned (.bool true) ∧ Below w.heap.size w w' := by
  by_cases h1 : 3 < f
  · go_enter Try.func4, Try.ntmps4
    go_wp2_with fail
    refine (zzb11 _ _ _ _ _ hn _).mono ?_
    rintro e w' ⟨rfl, rfl⟩
    clear ho
    go_wp2
    go_ret
    exact ⟨rfl, Below.refl _ _⟩
  by_cases h2 : i < 2
  · go_enter Try.func4, Try.ntmps4
    go_wp2_with fail
    refine (zzb11 _ _ _ _ _ hn _).mono ?_
    rintro e w' ⟨rfl, rfl⟩
    clear ho
    go_wp2
    go_ret
    exact ⟨rfl, Below.refl _ _⟩
  · have h3 : 65599 < i := by omega
    clear ho
    go_enter Try.func4, Try.ntmps4
    go_wp2_with fail
    refine (zzb11 _ _ _ _ _ hn _).mono ?_
    rintro e w' ⟨rfl, rfl⟩
    go_wp2
    go_ret
    exact ⟨rfl, Below.refl _ _⟩
end Go.Proofs.Qxb6601910a
