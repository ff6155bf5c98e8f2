/-
  The walk of FnParseBasicHeaderCaseTable.
-/
import Derived.Test.Qxb6601910aKit
import Derived.Test.Qxb6601910aParse
import Derived.Deep.QuietTactic
import Derived.BigQuiet
import Derived.LoopN
namespace Go.Proofs.Qxb6601910a
open Go.RowKit

theorem Try.info5 : (Try.prog.info? 5).map (fun i => (i.zero, i.size, i.bytes)) = some (some (.int .u8 0), 1, 1) := by kernel_rfl
theorem Try.size5 : (Try.prog.info? 5).map (fun i => i.size) = some 1 := by kernel_rfl

theorem zzb8 (a : Option Addr) (n c : Nat) (hn : n ≤ 1048576) (w : World) : Calls Try.prog 8 #[.slice a n c] w fun e w' => e = .returned (.bool true) ∧ w = w' := by
  go_enter Try.func8, Try.ntmps8
  go_wp2
  go_ret
  exact ⟨rfl, rfl⟩

theorem zzb8_no (a : Option Addr) (n c : Nat) (hn : 1048576 < n) (hm : n ≤ 9223372036854775807) (w : World) : Calls Try.prog 8 #[.slice a n c] w fun e w' => e = .returned (.bool false) ∧ w = w' := by
  go_enter Try.func8, Try.ntmps8
  go_wp2
  go_ret
  exact ⟨rfl, rfl⟩

theorem cell_bs (w : World) (zs : List Int) (j : Nat) (h : j < zs.length) : (w.alloc (.cells (bs zs) 5)).cell? ⟨w.heap.size, j, none⟩ = some (.int .u8 (zs.getD j 0)) := by
  rw [World.cell?_alloc_at _ _ _ _ rfl, bs_get zs j h]

/-- The walk as far as the header is read: what is left to show. -/
theorem zzph_bs (w : World) (zs : List Int) (n : Nat) (x y z : Int) (hl : zs.length = n) (hn : 1 ≤ n) (hx : zs.getD 0 0 = x) (hy : zs.getD 1 0 = y) (hz : zs.getD 2 0 = z) (hr : ∀ j, 0 ≤ zs.getD j 0 ∧ zs.getD j 0 ≤ 255) :
    Calls Try.prog 9 #[.slice (some ⟨w.heap.size, 0, none⟩) n n] (w.alloc (.cells (bs zs) 5)) fun e w' => e = .returned (.tuple #[.agg #[.int .u8 (phF x n), .int .u32 (phI x y z n)], .int .i64 (phK x)]) ∧
      w' = ((w.alloc (.cells (bs zs) 5)).alloc (.cells #[.int .u8 (phF x n), .int .u32 (phI x y z n)] 26)).alloc (.cells #[.int .u8 (phF x n), .int .u32 (phI x y z n)] 26) := by
  subst hx; subst hy; subst hz
  exact zzph_any _ _ _ _ _ _ _ (hr 0).1 (hr 0).2 (hr 1).1 (hr 1).2 (hr 2).1 (hr 2).2 hn _ (cell_bs w zs 0 (by omega)) (fun h => cell_bs w zs 1 (by omega)) (fun h => cell_bs w zs 2 (by omega)) (by simp)

set_option maxHeartbeats 2000000 in
theorem case_one (b off n c : Nat) (zs : List Int) (x y z : Int) (hl : zs.length = n) (hn : 1 ≤ n) (hn' : n ≤ 1048576) (w : World) (hb : b < w.heap.size)
    (hz : ∀ j, j < n → w.cell? ⟨b, off + j, none⟩ = some (.int .u8 (zs.getD j 0))) (hx : zs.getD 0 0 = x) (hy : zs.getD 1 0 = y) (hz' : zs.getD 2 0 = z) (hr : ∀ j, 0 ≤ zs.getD j 0 ∧ zs.getD j 0 ≤ 255) :
    Calls Try.prog 3 #[.slice (some ⟨b, off, none⟩) n c] w fun e w' => e = .returned (.bool true) ∧ Below w.heap.size w w' := by
  obtain ⟨i0, hi, hi1, hi2, hi3⟩ := info_parts Try.info5
  have n0 : ((n : Int) == 0) = false := by simp; omega
  have x0 : 0 ≤ x := by rw [← hx]; exact (hr 0).1
  have x1 : x ≤ 255 := by rw [← hx]; exact (hr 0).2
  have y0 : 0 ≤ y := by rw [← hy]; exact (hr 1).1
  have y1 : y ≤ 255 := by rw [← hy]; exact (hr 1).2
  have z0 : 0 ≤ z := by rw [← hz']; exact (hr 2).1
  have z1 : z ≤ 255 := by rw [← hz']; exact (hr 2).2
  have g0 : (bs zs)[0]? = some (.int .u8 x) := by rw [← hx]; exact bs_get zs 0 (by omega)
  have G1 : Hid (2 ≤ n → (bs zs)[1]? = some (.int .u8 y)) := fun h => by rw [← hy]; exact bs_get zs 1 (by omega)
  have G2 : Hid (3 ≤ n → (bs zs)[2]? = some (.int .u8 z)) := fun h => by rw [← hz']; exact bs_get zs 2 (by omega)
  have HP : Hid _ := zzph_bs w zs n x y z hl hn hx hy hz' hr
  have hcp := run_copy_bytes w 22 22 3 5 Try.underlying22 Try.size5 n c b off (zeros n) zs hl (length_zeros n) hb hz
  clear hz hx hy hz' hr
  go_enter Try.func3, Try.ntmps3
  go_wp2_with fail
  refine (zzb8 _ _ _ hn' _).mono ?_
  rintro e w' ⟨rfl, rfl⟩
  go_wp2_with (at_make; refine wpList_make_bytes _ rfl _ _ 22 rfl 5 i0 Try.underlying22 hi hi1 hi2 hi3 _ _ _ _ n rfl rfl rfl rfl (by omega) ?_)
  refine Calls.mono HP.out ?_
  rintro e w' ⟨rfl, rfl⟩
  clear hcp HP hi hi1 hi2 hi3
  by_cases hs : (n : Int) < phK x
  · -- too short
    have eF : phF x n = 0 := by rw [phF, if_pos hs]
    have eI : phI x y z n = 0 := by rw [phI, if_pos hs]
    rw [eF, eI]
    clear eF eI G1 G2
    by_cases m0 : x % 64 = 0
    · have eK : phK x = 2 := by simp [phK, m0]
      rw [eK] at hs ⊢
      clear eK
      go_wp2
      go_ret
      exact ⟨rfl, (by repeat (first | exact Below.refl _ _ | refine below_drewN ?_ _ | refine below_new ?_ _))⟩
    by_cases m1 : x % 64 = 1
    · have eK : phK x = 3 := by simp [phK, m1]
      rw [eK] at hs ⊢
      clear eK m0
      go_wp2
      go_ret
      exact ⟨rfl, (by repeat (first | exact Below.refl _ _ | refine below_drewN ?_ _ | refine below_new ?_ _))⟩
    · have eK : phK x = 1 := by simp [phK, m0, m1]
      rw [eK] at hs
      omega
  have hs' : phK x ≤ (n : Int) := by omega
  have eF : phF x n = x / 64 := by rw [phF, if_neg hs]
  by_cases m0 : x % 64 = 0
  · have eK : phK x = 2 := by simp [phK, m0]
    have eI : phI x y z n = 64 + y := by rw [phI, if_neg hs, if_pos m0]
    rw [eK] at hs'
    rw [eF, eI, eK]
    have g1 := G1.out (by omega)
    clear hs eF eI eK G1 G2
    go_wp2_with fail
    refine (sh_any (x / 64) (64 + y) (by omega) (by omega) (by omega) (by omega) _).mono ?_
    rintro e w' ⟨rfl, rfl⟩
    have e0 : sh0 (x / 64) (64 + y) = x := by rw [sh0, if_neg (by omega), if_pos (by omega)]; omega
    have e1 : sh1 (64 + y) = y := by rw [sh1, if_neg (by omega), if_pos (by omega)]; omega
    have e2 : sh2 (64 + y) = 0 := by rw [sh2, if_pos (by omega)]
    have e3 : shK (64 + y) = 2 := by rw [shK, if_neg (by omega), if_pos (by omega)]
    rw [e0, e1, e2, e3]
    clear e0 e1 e2 e3
    go_wp2
    refine wp_loop_rounds 3 ?_
    rw [rounds_succ]
    go_wp2
    go_quiet (fail)
    go_wp2
    rw [rounds_succ]
    go_wp2
    go_quiet (fail)
    go_wp2
    rw [rounds_succ]
    go_wp2
    go_ret
    exact ⟨rfl, (by repeat (first | exact Below.refl _ _ | refine below_drewN ?_ _ | refine below_new ?_ _))⟩
  by_cases m1 : x % 64 = 1
  · have eK : phK x = 3 := by simp [phK, m1]
    have eI : phI x y z n = 64 + y + z * 256 := by rw [phI, if_neg hs, if_neg m0, if_pos m1]
    rw [eK] at hs'
    rw [eF, eI, eK]
    have g1 := G1.out (by omega)
    have g2 := G2.out (by omega)
    clear hs eF eI eK G1 G2 m0
    by_cases zz : z = 0
    · subst zz
      go_wp2_with fail
      refine (sh_any (x / 64) (64 + y) (by omega) (by omega) (by omega) (by omega) _).mono ?_
      rintro e w' ⟨rfl, rfl⟩
      have e0 : sh0 (x / 64) (64 + y) = x - 1 := by rw [sh0, if_neg (by omega), if_pos (by omega)]; omega
      have e1 : sh1 (64 + y) = y := by rw [sh1, if_neg (by omega), if_pos (by omega)]; omega
      have e2 : sh2 (64 + y) = 0 := by rw [sh2, if_pos (by omega)]
      have e3 : shK (64 + y) = 2 := by rw [shK, if_neg (by omega), if_pos (by omega)]
      rw [e0, e1, e2, e3]
      clear e0 e1 e2 e3
      go_wp2
      go_quiet (fail)
      go_wp2
      go_ret
      exact ⟨rfl, (by repeat (first | exact Below.refl _ _ | refine below_drewN ?_ _ | refine below_new ?_ _))⟩
    · have zb : (z == 0) = false := by simpa using zz
      go_wp2_with fail
      refine (sh_any (x / 64) (64 + y + z * 256) (by omega) (by omega) (by omega) (by omega) _).mono ?_
      rintro e w' ⟨rfl, rfl⟩
      have e0 : sh0 (x / 64) (64 + y + z * 256) = x := by rw [sh0, if_neg (by omega), if_neg (by omega)]; omega
      have e1 : sh1 (64 + y + z * 256) = y := by rw [sh1, if_neg (by omega), if_neg (by omega)]; omega
      have e2 : sh2 (64 + y + z * 256) = z := by rw [sh2, if_neg (by omega)]; omega
      have e3 : shK (64 + y + z * 256) = 3 := by rw [shK, if_neg (by omega), if_neg (by omega)]
      rw [e0, e1, e2, e3]
      clear e0 e1 e2 e3
      go_wp2
      refine wp_loop_rounds 4 ?_
      rw [rounds_succ]
      go_wp2
      go_quiet (fail)
      go_wp2
      rw [rounds_succ]
      go_wp2
      go_quiet (fail)
      go_wp2
      rw [rounds_succ]
      go_wp2
      go_quiet (fail)
      go_wp2
      rw [rounds_succ]
      go_wp2
      go_ret
      exact ⟨rfl, (by repeat (first | exact Below.refl _ _ | refine below_drewN ?_ _ | refine below_new ?_ _))⟩
  · have eK : phK x = 1 := by simp [phK, m0, m1]
    have eI : phI x y z n = x % 64 := by rw [phI, if_neg hs, if_neg m0, if_neg m1]
    rw [eF, eI, eK]
    have m2 : 2 ≤ x % 64 := by omega
    clear hs eF eI eK G1 G2 m0 m1
    go_wp2_with fail
    refine (sh_any (x / 64) (x % 64) (by omega) (by omega) (by omega) (by omega) _).mono ?_
    rintro e w' ⟨rfl, rfl⟩
    have e0 : sh0 (x / 64) (x % 64) = x := by rw [sh0, if_pos (by omega)]; omega
    have e1 : sh1 (x % 64) = 0 := by rw [sh1, if_pos (by omega)]
    have e2 : sh2 (x % 64) = 0 := by rw [sh2, if_pos (by omega)]
    have e3 : shK (x % 64) = 1 := by rw [shK, if_pos (by omega)]
    rw [e0, e1, e2, e3]
    clear e0 e1 e2 e3
    go_wp2
    refine wp_loop_rounds 2 ?_
    rw [rounds_succ]
    go_wp2
    go_quiet (fail)
    go_wp2
    rw [rounds_succ]
    go_wp2
    go_ret
    exact ⟨rfl, (by repeat (first | exact Below.refl _ _ | refine below_drewN ?_ _ | refine below_new ?_ _))⟩

/-- An empty slice. -/
theorem case_empty (a : Option Addr) (c : Nat) (w : World) :
    Calls Try.prog 3 #[.slice a 0 c] w fun e w' => e = .returned (.bool true) ∧ Below w.heap.size w w' := by
  go_enter Try.func3, Try.ntmps3
  go_wp2_with fail
  refine (zzb8 _ _ _ (by omega) _).mono ?_
  rintro e w' ⟨rfl, rfl⟩
  go_wp2
  go_ret
  exact ⟨rfl, Below.refl _ _⟩

/-- A slice that is too long. -/
theorem case_long (a : Option Addr) (n c : Nat) (hn : 1048576 < n) (hm : n ≤ 9223372036854775807) (w : World) :
    Calls Try.prog 3 #[.slice a n c] w fun e w' => e = .returned (.bool true) ∧ Below w.heap.size w w' := by
  go_enter Try.func3, Try.ntmps3
  go_wp2_with fail
  refine (zzb8_no _ _ _ hn hm _).mono ?_
  rintro e w' ⟨rfl, rfl⟩
  go_wp2
  go_ret
  exact ⟨rfl, Below.refl _ _⟩
end Go.Proofs.Qxb6601910a
