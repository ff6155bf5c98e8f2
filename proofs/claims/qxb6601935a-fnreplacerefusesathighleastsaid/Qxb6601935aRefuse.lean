/-
  The walk of FnReplaceRefusesAtHighLeast.
-/
import Derived.Test.Qxb6601935aZZR
namespace Go.Proofs.Qxb6601935a
open Go.RowKit
set_option linter.unusedVariables false

theorem refuse_meas (zs : List Int) (n k : Nat) (hl : zs.length = n) (least : Int) (h : (n : Int) / 2 ≤ least) : (meas (zs.take (n - k)) : Int) ≤ least := by
  have := meas_half (zs.take (n - k))
  have h2 : (zs.take (n - k)).length ≤ n := by simp; omega
  omega

set_option maxHeartbeats 2000000 in
theorem refuse_any (a : Option Addr) (n c : Nat) (zs : List Int) (hl : zs.length = n) (hm : n ≤ 9223372036854775807) (hnil : a = none → n = 0 ∧ c = 0) (hr : ∀ j, 0 ≤ nth zs j ∧ nth zs j ≤ 255)
    (arr : Array Value) (T : Nat → RL) (least : Int) (w : World) (ha : Row w a zs) (hS : SetAt w arr T) (hsane : Sane T) :
    Calls Try.prog 9 #[.slice a n c, .agg arr, .int .i64 least] w fun e w' => e = .returned (.bool true) ∧ Below w.heap.size w w' := by
  have hb0 := heap_alloc_new w (.cells arr 29)
  have hw0 : Below w.heap.size w (w.alloc (.cells arr 29)) := below_new (Below.refl _ _) _
  have i29 : (Try.prog.info? 29).map (·.size) = some arr.size := by rw [hS.1]; kernel_rfl
  have hz := zzb28 a n c arr T least (w.alloc (.cells arr 29)) hm (hS.below hw0) hsane
  have HZ : Hid _ := hz
  have HS : Hid (SetAt w arr T) := hS
  have HA : Hid (Row w a zs) := ha
  have HR : Hid _ := hr
  have HN : Hid _ := hnil
  clear hz hS ha hr hnil hsane
  go_enter Try.func9, Try.ntmps9
  go_wp2_with (refine wpList_load_row rfl 29 (.tmp 4) rfl w.heap.size rfl 29 arr (0, 0) _ hb0 Try.underlying29 rfl i29 ?_)
  refine Calls.mono HZ.out ?_
  rintro e w1 ⟨r, rfl, rfl, hF⟩
  cases r with
  | false =>
    go_wp2_with fail
    go_ret
    exact ⟨rfl, by repeat (first | with_reducible exact Below.refl _ _ | with_reducible refine below_drewN ?_ _ | with_reducible refine below_new ?_ _)⟩
  | true =>
  obtain ⟨hn20, hsm⟩ := hF rfl
  have HSM : Hid _ := hsm
  clear hsm hF HZ
  by_cases hn4 : 4096 < n
  · go_wp2_with fail
    go_ret
    exact ⟨rfl, by repeat (first | with_reducible exact Below.refl _ _ | with_reducible refine below_drewN ?_ _ | with_reducible refine below_new ?_ _)⟩
  have hb1 : ((w.alloc (.cells arr 29)).alloc (.cells arr 29)).heap[w.heap.size]? = some (.cells arr 29) := by rw [Below.heap_alloc _ _ _ (by simp)]; exact hb0
  go_wp2_with (refine wpList_load_row rfl 29 (.tmp 4) rfl w.heap.size rfl 29 arr (0, 0) _ hb1 Try.underlying29 rfl i29 ?_)
  have hsb := setb_any arr T ((w.alloc (.cells arr 29)).alloc (.cells arr 29)) (SetAt.below HS.out (by repeat (first | with_reducible exact Below.refl _ _ | with_reducible refine below_new ?_ _))) HSM.out
  refine Calls.mono hsb ?_
  rintro e W2 ⟨t, nq, rfl, hW2⟩
  have hB2 : Below w.heap.size w W2 := by rw [hW2]; repeat (first | with_reducible exact Below.refl _ _ | with_reducible refine below_drewN ?_ _ | with_reducible refine below_new ?_ _)
  have hb2 : W2.heap[w.heap.size]? = some (.cells arr 29) := by rw [hW2, World.heap_drewN, Below.heap_alloc _ _ _ (by simp; omega)]; exact hb1
  have HB2 : Hid _ := hB2
  have s2 : w.heap.size < W2.heap.size := (Array.getElem?_eq_some_iff.1 hb2).1
  clear hW2 hb1 hb0 hB2 hsb hw0
  by_cases ht : 1048576 - (n : Int) < t
  · go_wp2_with fail
    go_ret
    exact ⟨rfl, HB2.out⟩
  by_cases hn0 : n = 0
  · subst hn0
    have hz0 : zs = [] := List.eq_nil_of_length_eq_zero hl
    subst hz0
    clear HA HR hl
    go_wp2_with fail
    go_ret
    exact ⟨rfl, HB2.out⟩
  obtain ⟨b, off, rfl, hb, hc⟩ := (Row.below HA.out HB2.out) (n - 1) (by omega)
  have hn0' : ((n : Int) == 0) = false := by simp; omega
  have hnb : (0 : Int) ≤ (n : Int) - 1 := by omega
  generalize hv : nth zs (n - 1) = v at hc
  by_cases hlo : v < 97
  · have hlo' : decide (v < 97) = true := by simpa using hlo
    go_wp2_with fail
    go_ret
    exact ⟨rfl, HB2.out⟩
  have hlo' : decide (v < 97) = false := by simpa using hlo
  by_cases hhi : 122 < v
  · have hhi' : decide (122 < v) = true := by simpa using hhi
    go_wp2_with fail
    go_ret
    exact ⟨rfl, HB2.out⟩
  have hhi' : decide (122 < v) = false := by simpa using hhi
  by_cases hle : least < (n : Int) / 2
  · go_wp2_with fail
    go_ret
    exact ⟨rfl, HB2.out⟩
  go_wp2_with fail
  have hRa := Row.below HA.out HB2.out
  refine (copy_some ⟨b, off, none⟩ n c zs hl (by omega) W2 hRa).mono ?_
  rintro e W3 ⟨rfl, hW3⟩
  have hB3 : Below w.heap.size w W3 := by rw [hW3]; exact HB2.out.alloc HB2.out.size _
  have hb3 : W3.heap[w.heap.size]? = some (.cells arr 29) := by rw [hW3, Below.heap_alloc _ _ _ s2]; exact hb2
  have hg1 : W3.heap[W2.heap.size]? = some (.cells (bs zs) 5) := by rw [hW3]; exact heap_alloc_new W2 _
  have hne1 : w.heap.size ≠ W2.heap.size := by omega
  have s3 : W2.heap.size < W3.heap.size := (Array.getElem?_eq_some_iff.1 hg1).1
  generalize W2.heap.size = g1 at *
  clear hW3 hc hRa hb hb2
  have hcs := copyset arr T W3 (SetAt.below HS.out hB3) HSM.out
  have HB3 : Hid _ := hB3
  have HG1 : Hid _ := hg1
  have HCS : Hid _ := hcs
  clear hB3 hg1 hcs HB2
  go_wp2_with (refine wpList_load_row rfl 29 (.tmp 4) rfl w.heap.size rfl 29 arr (0, 0) _ hb3 Try.underlying29 rfl i29 ?_)
  refine Calls.mono HCS.out ?_
  rintro e W4 ⟨out, rfl, hSI, hB4⟩
  have hb4 : W4.heap[w.heap.size]? = some (.cells arr 29) := by rw [hB4.block _ (by omega)]; exact hb3
  have hsz : arr.size = out.size := by rw [HS.out.1, hSI.1]
  have i29' : (Try.prog.info? 29).map (·.size) = some out.size := by rw [← hsz]; exact i29
  have hone := hSI.setAt.oneCell
  have HSI : Hid _ := hSI
  have HB4 : Hid _ := hB4
  have HO : Hid _ := hone
  have HSZ : Hid _ := hsz
  clear hSI hB4 hone HCS hsz hb3
  go_wp2_with (refine wpList_store_row rfl 29 (.tmp 4) (.tmp 52) rfl w.heap.size out rfl rfl arr 29 hb4 HSZ.out i29' HO.out ?_)
  obtain ⟨W5, hW5⟩ : ∃ W5, W5 = W4.setRow w.heap.size out := ⟨_, rfl⟩
  have hB5 : Below w.heap.size w W5 := by rw [hW5]; exact below_setRow' (below_lift HB3.out HB4.out) (Nat.le_refl _) _
  have hb5 : W5.heap[w.heap.size]? = some (.cells out 29) := by rw [hW5]; exact setRow_heap W4 w.heap.size arr out 29 _ hb4
  have hg5 : W5.heap[g1]? = some (.cells (bs zs) 5) := by rw [hW5, setRow_other _ _ _ _ (by omega), HB4.out.block g1 s3]; exact HG1.out
  have hSI5 : SetIn W3.heap.size W5 out T := SetIn.kept HSI.out (by rw [hW5]; simp) (fun b hb _ => by rw [hW5]; exact setRow_other W4 w.heap.size b out (by omega))
  have s5 : W3.heap.size ≤ W5.heap.size := by rw [hW5]; simpa using HB4.out.size
  rw [← hW5]
  clear hW5 hb4 HB3 HB4 HSI HG1
  refine (copy_some ⟨g1, 0, none⟩ n n zs hl (by omega) W5 (Row.own hg5)).mono ?_
  rintro e W6 ⟨rfl, hW6⟩
  have hB6 : Below w.heap.size w W6 := by rw [hW6]; exact hB5.alloc hB5.size _
  have hb6 : W6.heap[w.heap.size]? = some (.cells out 29) := by rw [hW6, Below.heap_alloc _ _ _ (by omega)]; exact hb5
  have hg6 : W6.heap[g1]? = some (.cells (bs zs) 5) := by rw [hW6, Below.heap_alloc _ _ _ (by omega)]; exact hg5
  have hg2 : W6.heap[W5.heap.size]? = some (.cells (bs zs) 5) := by rw [hW6]; exact heap_alloc_new W5 _
  have hS6 : SetAt W6 out T := SetAt.below hSI5.setAt (by rw [hW6]; exact below_new (Below.refl _ _) _)
  have s6 : W5.heap.size < W6.heap.size := (Array.getElem?_eq_some_iff.1 hg2).1
  have hne2 : g1 ≠ W5.heap.size := by omega
  generalize W5.heap.size = g2 at *
  clear hW6 hB5 hb5 hg5 hSI5
  have hrp := zzrepl g2 n zs hl (by omega) (by omega) HR.out (by omega) (by omega) out T least W6 hg2 hS6 HSM.out
  have HRP : Hid _ := hrp
  have HB6 : Hid _ := hB6
  have HG6 : Hid _ := hg6
  have HG2 : Hid _ := hg2
  clear hrp hB6 hg6 hg2 hS6
  go_wp2_with (refine wpList_load_row rfl 29 (.tmp 4) rfl w.heap.size rfl 29 out (0, 0) _ hb6 Try.underlying29 rfl i29' ?_)
  refine Calls.mono HRP.out ?_
  intro e W7 hout
  obtain ⟨rfl, hB7⟩ := hout.1 (.inr (refuse_meas zs n _ hl least (by omega)))
  have R2 : Hid (Row W7 (some ⟨g2, 0, none⟩) zs) := Row.below (Row.own HG2.out) hB7
  have R1 : Hid (Row W7 (some ⟨g1, 0, none⟩) zs) := Row.below (Row.own HG6.out) hB7
  have HB7 : Hid (Below w.heap.size w W7) := below_lift HB6.out hB7
  clear hout hB7 HRP hb6
  go_wp2_with fail
  refine (same_eq _ _ n n n zs hl (by omega) W7 R2.out R1.out).mono ?_
  rintro e w' ⟨rfl, nq1, rfl⟩
  go_wp2_with fail
  refine (same_eq _ _ n n n zs hl (by omega) _ (Row.below R2.out (below_drewN (Below.refl _ _) _)) (Row.below R1.out (below_drewN (Below.refl _ _) _))).mono ?_
  rintro e w' ⟨rfl, nq2, rfl⟩
  go_wp2_with fail
  go_ret
  exact ⟨rfl, by repeat (first | with_reducible exact HB7.out | with_reducible refine below_drewN ?_ _)⟩
end Go.Proofs.Qxb6601935a
