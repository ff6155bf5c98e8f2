/-
  The walk of FnStep1bModel.
-/
import Derived.Test.Qxb6601935aModB
namespace Go.Proofs.Qxb6601935a
open Go.RowKit
set_option linter.unusedVariables false

theorem zzb16 (a : Option Addr) (n c : Nat) (hn : n ≤ 1048576) (w : World) : Calls Try.prog 16 #[.slice a n c] w fun e w' => e = .returned (.bool true) ∧ w = w' := by
  go_enter Try.func16, Try.ntmps16
  go_wp2
  go_ret
  exact ⟨rfl, rfl⟩
theorem zzb16_no (a : Option Addr) (n c : Nat) (hn : 1048576 < n) (hm : n ≤ 9223372036854775807) (w : World) : Calls Try.prog 16 #[.slice a n c] w fun e w' => e = .returned (.bool false) ∧ w = w' := by
  go_enter Try.func16, Try.ntmps16
  go_wp2
  go_ret
  exact ⟨rfl, rfl⟩

theorem lawB_long (a : Option Addr) (n c : Nat) (hn : 1048576 < n) (hm : n ≤ 9223372036854775807) (w : World) : Calls Try.prog 5 #[.slice a n c] w fun e w' => e = .returned (.bool true) ∧ Below w.heap.size w w' := by
  go_enter Try.func5, Try.ntmps5
  go_wp2_with fail
  refine (zzb16_no _ _ _ hn hm _).mono ?_
  rintro e w' ⟨rfl, rfl⟩
  go_wp2
  go_ret
  exact ⟨rfl, Below.refl _ _⟩
theorem lawB_past (a : Option Addr) (n c : Nat) (hn : n ≤ 1048576) (hp : 4096 < n) (w : World) : Calls Try.prog 5 #[.slice a n c] w fun e w' => e = .returned (.bool true) ∧ Below w.heap.size w w' := by
  go_enter Try.func5, Try.ntmps5
  go_wp2_with fail
  refine (zzb16 _ _ _ hn _).mono ?_
  rintro e w' ⟨rfl, rfl⟩
  go_wp2_with fail
  go_ret
  exact ⟨rfl, Below.refl _ _⟩
theorem lawB_nil (w : World) : Calls Try.prog 5 #[.slice none 0 0] w fun e w' => e = .returned (.bool true) ∧ Below w.heap.size w w' := by
  go_enter Try.func5, Try.ntmps5
  go_wp2_with fail
  refine (zzb16 _ _ _ (by omega) _).mono ?_
  rintro e w' ⟨rfl, rfl⟩
  go_wp2_with fail
  refine (copy_nil _).mono ?_
  rintro e w' ⟨rfl, rfl⟩
  go_wp2_with fail
  refine (copy_nil _).mono ?_
  rintro e w' ⟨rfl, rfl⟩
  go_wp2_with fail
  refine (modb_nil _).mono ?_
  rintro e w' ⟨rfl, nq, rfl⟩
  go_wp2_with fail
  refine (zzstep1b_nil _).mono ?_
  rintro e w' ⟨rfl, rfl⟩
  go_wp2_with fail
  refine (same_eq none none 0 0 0 [] rfl (by omega) _ (Row.nil _ _) (Row.nil _ _)).mono ?_
  rintro e w' ⟨rfl, nq1, rfl⟩
  go_wp2_with fail
  refine (rest_fits none none none 0 0 0 0 0 [] [] [] rfl rfl rfl (by omega) (Nat.le_refl _) _ (Row.nil _ _) (Row.nil _ _) (Row.nil _ _) (fun _ _ => rfl) (fun _ _ _ => rfl)).mono ?_
  rintro e w' ⟨rfl, nq2, rfl⟩
  go_wp2
  go_ret
  exact ⟨rfl, by repeat (first | with_reducible exact Below.refl _ _ | with_reducible refine below_drewN ?_ _)⟩

set_option maxHeartbeats 1000000 in
theorem lawB_some (x : Addr) (n c : Nat) (zs : List Int) (hl : zs.length = n) (hn : n ≤ 4096) (hr : ∀ j, 0 ≤ nth zs j ∧ nth zs j ≤ 255) (w : World) (ha : Row w (some x) zs) :
    Calls Try.prog 5 #[.slice (some x) n c] w fun e w' => e = .returned (.bool true) ∧ Below w.heap.size w w' := by
  have HA : Hid _ := ha
  have HR : Hid _ := hr
  clear ha hr
  go_enter Try.func5, Try.ntmps5
  go_wp2_with fail
  refine (zzb16 _ _ _ (by omega) _).mono ?_
  rintro e w' ⟨rfl, rfl⟩
  go_wp2_with fail
  refine (copy_some x n c zs hl (by omega) _ HA.out).mono ?_
  rintro e W1 ⟨rfl, hW1⟩
  have hB1 : Below w.heap.size w W1 := by rw [hW1]; exact below_new (Below.refl _ _) _
  have hg1 : W1.heap[w.heap.size]? = some (.cells (bs zs) 5) := by rw [hW1]; exact heap_alloc_new w _
  have HB1 : Hid _ := hB1
  have HG1 : Hid _ := hg1
  have s1 : w.heap.size < W1.heap.size := (Array.getElem?_eq_some_iff.1 hg1).1
  obtain ⟨g1, hgg⟩ : ∃ g1, g1 = w.heap.size := ⟨_, rfl⟩
  have hb1 : w.heap.size ≤ g1 := by omega
  rw [← hgg] at HG1 s1 ⊢
  clear hgg hW1 hB1 hg1 HA
  go_wp2_with fail
  refine (copy_some _ n n zs hl (by omega) _ (Row.own HG1.out)).mono ?_
  rintro e W2 ⟨rfl, hW2⟩
  have HB2 : Hid (Below w.heap.size w W2) := by unfold Hid; rw [hW2]; exact HB1.out.alloc HB1.out.size _
  have hg2 : W2.heap[W1.heap.size]? = some (.cells (bs zs) 5) := by rw [hW2]; exact heap_alloc_new W1 _
  have hg12 : W2.heap[g1]? = some (.cells (bs zs) 5) := by rw [hW2, Below.heap_alloc _ _ _ s1]; exact HG1.out
  have s2 : W1.heap.size < W2.heap.size := (Array.getElem?_eq_some_iff.1 hg2).1
  have HG2 : Hid _ := hg2
  have HG12 : Hid _ := hg12
  obtain ⟨g2, hgg⟩ : ∃ g2, g2 = W1.heap.size := ⟨_, rfl⟩
  have hb2 : w.heap.size ≤ g2 := by have := HB1.out.size; omega
  rw [← hgg] at HG2 s1 s2 ⊢
  clear hgg hW2 hg2 hg12 HB1 HG1
  go_wp2_with fail
  refine (modb_any g1 n zs hl hn W2 (Row.own HG12.out)).mono ?_
  rintro e W3 ⟨g3, l, rfl, hl3, hR3, hg3, hB3⟩
  have HB3 : Hid (Below w.heap.size w W3) := below_lift HB2.out hB3
  have HG13 : Hid (W3.heap[g1]? = some (.cells (bs zs) 5)) := by unfold Hid; rw [hB3.block _ (by omega)]; exact HG12.out
  have HG23 : Hid (W3.heap[g2]? = some (.cells (bs zs) 5)) := by unfold Hid; rw [hB3.block _ (by omega)]; exact HG2.out
  have s3 : W2.heap.size ≤ W3.heap.size := hB3.size
  have HR3 : Hid _ := hR3
  have HL3 : Hid _ := hl3
  clear hB3 hR3 hl3 HB2 HG2 HG12
  go_wp2_with fail
  refine (zzstep1b g2 n zs hl hn HR.out W3 HG23.out).mono ?_
  intro e W4 hout
  obtain ⟨L, hL⟩ : ∃ L, L = s1b zs := ⟨_, rfl⟩
  rw [← hL] at hout HR3 HL3
  obtain ⟨rfl, hg4, hbut, hfit⟩ := hout
  have hLl := HL3.out
  have hZl : (L ++ zs.drop L.length).length = n := by rw [List.length_append, List.length_drop]; omega
  have RI : Hid (Row W4 (some ⟨g2, 0, none⟩) (L ++ zs.drop L.length)) := Row.own hg4
  have RG : Hid (Row W4 (some ⟨g2, 0, none⟩) L) := by
    have := Row.take (Row.own hg4) L.length
    rwa [List.take_left] at this
  have RW : Hid (Row W4 (some ⟨g3, 0, none⟩) L) := Row.but HR3.out (by omega) hbut
  have RO : Hid (Row W4 (some ⟨g1, 0, none⟩) zs) := Row.but (Row.own HG13.out) (by omega) hbut
  have HB4 : Hid (Below w.heap.size w W4) := HB3.out.trans (hbut.below HB3.out.size hb2)
  have N1 : Hid (∀ j, j < l → nth (L ++ zs.drop L.length) j = nth L j) := fun j hj => nth_append_left _ _ _ (by omega)
  have N2 : Hid (∀ j, l ≤ j → j < n → nth (L ++ zs.drop L.length) j = nth zs j) := by
    intro j hj _
    obtain ⟨i, rfl⟩ : ∃ i, j = L.length + i := ⟨j - L.length, by omega⟩
    rw [nth_append_right, nth_drop]
  have HZ : Hid _ := hZl
  have hfit' : l ≤ n := by omega
  rw [hLl]
  clear hg4 hbut hZl HB3 HG13 HG23 HR3 hL hfit hLl
  go_wp2_with fail
  refine (same_eq _ _ l n l L HL3.out (by omega) W4 RG.out RW.out).mono ?_
  rintro e w' ⟨rfl, nq1, rfl⟩
  go_wp2_with fail
  refine (rest_fits _ _ _ n l n n n _ L zs HZ.out HL3.out hl (by omega) hfit' _ (Row.below RI.out (below_drewN (Below.refl _ _) _)) (Row.below RG.out (below_drewN (Below.refl _ _) _)) (Row.below RO.out (below_drewN (Below.refl _ _) _)) N1.out N2.out).mono ?_
  rintro e w' ⟨rfl, nq2, rfl⟩
  go_wp2_with fail
  go_ret
  exact ⟨rfl, by repeat (first | with_reducible exact HB4.out | with_reducible refine below_drewN ?_ _)⟩
end Go.Proofs.Qxb6601935a
