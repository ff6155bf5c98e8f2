/-
  The walk of FnReplaceModel.
-/
import Derived.Test.Qxb6601935aZZR
import Derived.Test.Qxb6601935aTwo
namespace Go.Proofs.Qxb6601935a
open Go.RowKit
set_option linter.unusedVariables false

set_option maxHeartbeats 1000000 in
theorem zzb26 (a : Option Addr) (n c : Nat) (arr : Array Value) (T : Nat → RL) (least : Int) (w : World) (hm : n ≤ 9223372036854775807) (hS : SetAt w arr T) (hsane : Sane T) :
    Calls Try.prog 26 #[.slice a n c, .agg arr, .int .i64 least] w (ZOut (w.alloc (.cells arr 29)) (n ≤ 1048576 ∧ ∀ k, k < 26 → Small (T k))) := by
  by_cases hn : 1048576 < n
  · clear hS
    go_enter Try.func26, Try.ntmps26
    go_wp2
    go_ret
    exact ZOut.no
  have HS : Hid (SetAt (w.alloc (.cells arr 29)) arr T) := hS.below (below_new (Below.refl _ _) _)
  have HT : Hid _ := hsane
  clear hS hsane
  go_enter Try.func26, Try.ntmps26
  go_wp2
  go_loop [7, 8] (fun z i => ∃ (k : Nat) (t : Int), k ≤ 26 ∧ i = .int .i64 k ∧ z = .int .i64 t ∧ 0 ≤ t ∧ t ≤ 1048576 ∧ ∀ k', k' < k → Small (T k')) (fun _ i => 26 - (intOf i).toNat)
  case atStart => exact ⟨0, n, by omega, rfl, rfl, by omega, by omega, fun k' h => by omega⟩
  case round =>
    obtain ⟨k, t, hk, rfl, rfl, t0, t1, hsm⟩ := hrel
    have HM : Hid _ := hsm
    clear hsm
    by_cases hlt : k < 26
    · obtain ⟨a', c', h1, h2, h3⟩ := HS.out.2 k hlt
      have HR : Hid (Rules (w.alloc (.cells arr 29)) a' (T k)) := h3
      have hb := (HT.out k hlt).1
      have HN : Hid (∀ j, j < (T k).length → (sufAt (T k) j).size ≤ 9223372036854775807 ∧ (withAt (T k) j).size ≤ 9223372036854775807) := (HT.out k hlt).2
      clear h2 h3
      by_cases hbig : 1048576 < (T k).length
      · go_wp2
        go_ret
        exact ZOut.no
      by_cases hbig2 : 1048576 < t + ((T k).length : Int)
      · go_wp2
        go_ret
        exact ZOut.no
      go_wp2
      go_loop [7, 9] (fun z i => ∃ (j : Nat) (t' : Int), j ≤ (T k).length ∧ i = .int .i64 j ∧ z = .int .i64 t' ∧ 0 ≤ t' ∧ t' ≤ 1048576 ∧ ∀ j', j' < j → (sufAt (T k) j').size ≤ 1048576 ∧ (withAt (T k) j').size ≤ 1048576) (fun _ i => (T k).length - (intOf i).toNat)
      case atStart => exact ⟨0, _, by omega, rfl, rfl, by omega, by omega, fun j' h => by omega⟩
      case round =>
        obtain ⟨j, t', hj, rfl, rfl, t0', t1', hsm⟩ := hrel
        have HM' : Hid _ := hsm
        clear hsm
        by_cases hjl : j < (T k).length
        · obtain ⟨b, off, rfl, hb', g1, g2⟩ := HR.out j hjl
          obtain ⟨z1, z2⟩ := HN.out j hjl
          generalize hs1 : sufAt (T k) j = s1 at g1 z1
          generalize hs2 : withAt (T k) j = s2 at g2 z2
          have HS1 : Hid _ := hs1
          have HS2 : Hid _ := hs2
          clear hs1 hs2
          go_wp2
          refine wp_loop_rounds 3 ?_
          rw [rounds_succ]
          go_wp2
          · go_ret
            exact ZOut.no
          · go_ret
            exact ZOut.no
          have l1 : (s1.size : Int) ≤ 1048576 := by assumption
          have l2 : t' + (s1.size : Int) ≤ 1048576 := by assumption
          rw [rounds_succ]
          go_wp2
          · go_ret
            exact ZOut.no
          · go_ret
            exact ZOut.no
          have l3 : (s2.size : Int) ≤ 1048576 := by assumption
          have l4 : t' + (s1.size : Int) + (s2.size : Int) ≤ 1048576 := by assumption
          rw [rounds_succ]
          go_wp2
          go_round
          case rel =>
            refine ⟨j + 1, _, by omega, by go_num, rfl, by omega, by omega, fun j' hj' => ?_⟩
            rcases Nat.lt_or_ge j' j with h | h
            · exact HM'.out j' h
            · obtain rfl : j' = j := by omega
              rw [HS1.out, HS2.out]
              exact ⟨by omega, by omega⟩
          case measure => simp [intOf]; omega
        · obtain rfl : j = (T k).length := by omega
          go_wp2
          go_round
          case rel =>
            refine ⟨k + 1, t', by omega, by go_num, rfl, t0', t1', fun k' hk' => ?_⟩
            rcases Nat.lt_or_ge k' k with h | h
            · exact HM.out k' h
            · obtain rfl : k' = k := by omega
              exact ⟨by omega, HM'.out⟩
          case measure => simp [intOf]; omega
    · obtain rfl : k = 26 := by omega
      go_wp2
      go_ret
      exact ZOut.yes ⟨by omega, HM.out⟩

set_option maxHeartbeats 2000000 in
theorem replmodel_any (a : Option Addr) (n c : Nat) (zs : List Int) (hl : zs.length = n) (hm : n ≤ 9223372036854775807) (hnil : a = none → n = 0 ∧ c = 0) (hr : ∀ j, 0 ≤ nth zs j ∧ nth zs j ≤ 255)
    (arr : Array Value) (T : Nat → RL) (least : Int) (w : World) (ha : Row w a zs) (hS : SetAt w arr T) (hsane : Sane T) :
    Calls Try.prog 8 #[.slice a n c, .agg arr, .int .i64 least] w fun e w' => e = .returned (.bool true) ∧ Below w.heap.size w w' := by
  have hb0 := heap_alloc_new w (.cells arr 29)
  have hw0 : Below w.heap.size w (w.alloc (.cells arr 29)) := below_new (Below.refl _ _) _
  have i29 : (Try.prog.info? 29).map (·.size) = some arr.size := by rw [hS.1]; kernel_rfl
  have hz := zzb26 a n c arr T least (w.alloc (.cells arr 29)) hm (hS.below hw0) hsane
  have HZ : Hid _ := hz
  have HS : Hid (SetAt w arr T) := hS
  have HA : Hid (Row w a zs) := ha
  have HR : Hid _ := hr
  have HN : Hid _ := hnil
  clear hz hS ha hr hnil hsane
  go_enter Try.func8, Try.ntmps8
  go_wp2_with (refine wpList_load_row rfl 29 (.tmp 4) rfl w.heap.size rfl 29 arr (0, 0) _ hb0 Try.underlying29 rfl i29 ?_)
  refine Calls.mono HZ.out ?_
  rintro e w1 ⟨r, rfl, rfl, hF⟩
  cases r with
  | false =>
    go_wp2_with fail
    go_ret
    exact ⟨rfl, by repeat (first | with_reducible exact Below.refl _ _ | with_reducible refine below_drewN ?_ _ | with_reducible refine below_new ?_ _)⟩
  | true =>
  obtain ⟨hn20, hsm⟩ := hF rfl
  have HSM : Hid _ := hsm
  clear hsm hF HZ
  by_cases hn4 : 4096 < n
  · go_wp2_with fail
    go_ret
    exact ⟨rfl, by repeat (first | with_reducible exact Below.refl _ _ | with_reducible refine below_drewN ?_ _ | with_reducible refine below_new ?_ _)⟩
  have hb1 : ((w.alloc (.cells arr 29)).alloc (.cells arr 29)).heap[w.heap.size]? = some (.cells arr 29) := by rw [Below.heap_alloc _ _ _ (by simp)]; exact hb0
  go_wp2_with (refine wpList_load_row rfl 29 (.tmp 4) rfl w.heap.size rfl 29 arr (0, 0) _ hb1 Try.underlying29 rfl i29 ?_)
  have hsb := setb_any arr T ((w.alloc (.cells arr 29)).alloc (.cells arr 29)) (SetAt.below HS.out (by repeat (first | with_reducible exact Below.refl _ _ | with_reducible refine below_new ?_ _))) HSM.out
  refine Calls.mono hsb ?_
  rintro e W2 ⟨t, nq, rfl, hW2⟩
  have hB2 : Below w.heap.size w W2 := by rw [hW2]; repeat (first | with_reducible exact Below.refl _ _ | with_reducible refine below_drewN ?_ _ | with_reducible refine below_new ?_ _)
  have hb2 : W2.heap[w.heap.size]? = some (.cells arr 29) := by rw [hW2, World.heap_drewN, Below.heap_alloc _ _ _ (by simp; omega)]; exact hb1
  have HB2 : Hid _ := hB2
  have s2 : w.heap.size < W2.heap.size := (Array.getElem?_eq_some_iff.1 hb2).1
  clear hW2 hb1 hb0 hB2 hsb hw0
  by_cases ht : 1048576 - (n : Int) < t
  · go_wp2_with fail
    go_ret
    exact ⟨rfl, HB2.out⟩
  by_cases hn0 : n = 0
  · subst hn0
    have hz0 : zs = [] := List.eq_nil_of_length_eq_zero hl
    subst hz0
    clear HA HR hl
    go_wp2_with fail
    go_ret
    exact ⟨rfl, HB2.out⟩
  obtain ⟨b, off, rfl, hb, hc⟩ := (Row.below HA.out HB2.out) (n - 1) (by omega)
  have hn0' : ((n : Int) == 0) = false := by simp; omega
  have hnb : (0 : Int) ≤ (n : Int) - 1 := by omega
  generalize hv : nth zs (n - 1) = v at hc
  by_cases hlo : v < 97
  · have hlo' : decide (v < 97) = true := by simpa using hlo
    go_wp2_with fail
    go_ret
    exact ⟨rfl, HB2.out⟩
  have hlo' : decide (v < 97) = false := by simpa using hlo
  by_cases hhi : 122 < v
  · have hhi' : decide (122 < v) = true := by simpa using hhi
    go_wp2_with fail
    go_ret
    exact ⟨rfl, HB2.out⟩
  have hhi' : decide (122 < v) = false := by simpa using hhi
  go_wp2_with fail
  have hRa := Row.below HA.out HB2.out
  refine (copy_some ⟨b, off, none⟩ n c zs hl (by omega) W2 hRa).mono ?_
  rintro e W3 ⟨rfl, hW3⟩
  have hB3 : Below w.heap.size w W3 := by rw [hW3]; exact HB2.out.alloc HB2.out.size _
  have hb3 : W3.heap[w.heap.size]? = some (.cells arr 29) := by rw [hW3, Below.heap_alloc _ _ _ s2]; exact hb2
  have hg1 : W3.heap[W2.heap.size]? = some (.cells (bs zs) 5) := by rw [hW3]; exact heap_alloc_new W2 _
  have hne1 : w.heap.size ≠ W2.heap.size := by omega
  have s3 : W2.heap.size < W3.heap.size := (Array.getElem?_eq_some_iff.1 hg1).1
  generalize W2.heap.size = g1 at *
  clear hW3 hc hRa hb hb2
  have hcs := copyset arr T W3 (SetAt.below HS.out hB3) HSM.out
  have HB3 : Hid _ := hB3
  have HG1 : Hid _ := hg1
  have HCS : Hid _ := hcs
  clear hB3 hg1 hcs HB2
  go_wp2_with (refine wpList_load_row rfl 29 (.tmp 4) rfl w.heap.size rfl 29 arr (0, 0) _ hb3 Try.underlying29 rfl i29 ?_)
  refine Calls.mono HCS.out ?_
  rintro e W4 ⟨out, rfl, hSI, hB4⟩
  have hb4 : W4.heap[w.heap.size]? = some (.cells arr 29) := by rw [hB4.block _ (by omega)]; exact hb3
  have hsz : arr.size = out.size := by rw [HS.out.1, hSI.1]
  have i29' : (Try.prog.info? 29).map (·.size) = some out.size := by rw [← hsz]; exact i29
  have hone := hSI.setAt.oneCell
  have HSI : Hid _ := hSI
  have HB4 : Hid _ := hB4
  have HO : Hid _ := hone
  have HSZ : Hid _ := hsz
  clear hSI hB4 hone HCS hsz hb3
  go_wp2_with (refine wpList_store_row rfl 29 (.tmp 4) (.tmp 48) rfl w.heap.size out rfl rfl arr 29 hb4 HSZ.out i29' HO.out ?_)
  obtain ⟨W5, hW5⟩ : ∃ W5, W5 = W4.setRow w.heap.size out := ⟨_, rfl⟩
  have hB5 : Below w.heap.size w W5 := by rw [hW5]; exact below_setRow' (below_lift HB3.out HB4.out) (Nat.le_refl _) _
  have hb5 : W5.heap[w.heap.size]? = some (.cells out 29) := by rw [hW5]; exact setRow_heap W4 w.heap.size arr out 29 _ hb4
  have hg5 : W5.heap[g1]? = some (.cells (bs zs) 5) := by rw [hW5, setRow_other _ _ _ _ (by omega), HB4.out.block g1 s3]; exact HG1.out
  have hSI5 : SetIn W3.heap.size W5 out T := SetIn.kept HSI.out (by rw [hW5]; simp) (fun b hb _ => by rw [hW5]; exact setRow_other W4 w.heap.size b out (by omega))
  have s5 : W3.heap.size ≤ W5.heap.size := by rw [hW5]; simpa using HB4.out.size
  rw [← hW5]
  clear hW5 hb4 HB3 HB4 HSI HG1
  refine (copy_some ⟨g1, 0, none⟩ n n zs hl (by omega) W5 (Row.own hg5)).mono ?_
  rintro e W6 ⟨rfl, hW6⟩
  have hB6 : Below w.heap.size w W6 := by rw [hW6]; exact hB5.alloc hB5.size _
  have hb6 : W6.heap[w.heap.size]? = some (.cells out 29) := by rw [hW6, Below.heap_alloc _ _ _ (by omega)]; exact hb5
  have hg6 : W6.heap[g1]? = some (.cells (bs zs) 5) := by rw [hW6, Below.heap_alloc _ _ _ (by omega)]; exact hg5
  have hg2 : W6.heap[W5.heap.size]? = some (.cells (bs zs) 5) := by rw [hW6]; exact heap_alloc_new W5 _
  have hS6 : SetAt W6 out T := SetAt.below hSI5.setAt (by rw [hW6]; exact below_new (Below.refl _ _) _)
  have s6 : W5.heap.size < W6.heap.size := (Array.getElem?_eq_some_iff.1 hg2).1
  have hne2 : g1 ≠ W5.heap.size := by omega
  generalize W5.heap.size = g2 at *
  clear hW6 hB5 hb5 hg5 hSI5
  have hmod := two_any g1 n zs hl (by omega) (by omega) (by omega) (by omega) out T least W6 (Row.own hg6) hS6 HSM.out
  have HMOD : Hid _ := hmod
  have HB6 : Hid _ := hB6
  have HG6 : Hid _ := hg6
  have HG2 : Hid _ := hg2
  have HS6 : Hid _ := hS6
  clear hmod hB6 hg6 hg2 hS6
  go_wp2_with (refine wpList_load_row rfl 29 (.tmp 4) rfl w.heap.size rfl 29 out (0, 0) _ hb6 Try.underlying29 rfl i29' ?_)
  refine Calls.mono HMOD.out ?_
  rintro e W7 ⟨g3, rfl, hR3, hg3, hB7⟩
  have hb7 : W7.heap[w.heap.size]? = some (.cells out 29) := by rw [hB7.block _ (by omega)]; exact hb6
  have hg17 : W7.heap[g1]? = some (.cells (bs zs) 5) := by rw [hB7.block _ (by omega)]; exact HG6.out
  have hg27 : W7.heap[g2]? = some (.cells (bs zs) 5) := by rw [hB7.block _ (by omega)]; exact HG2.out
  have hrp := zzrepl g2 n zs hl (by omega) (by omega) HR.out (by omega) (by omega) out T least W7 hg27 (SetAt.below HS6.out hB7) HSM.out
  have s7 : W6.heap.size ≤ W7.heap.size := hB7.size
  have HRP : Hid _ := hrp
  have HB7 : Hid (Below w.heap.size w W7) := below_lift HB6.out hB7
  have R3 : Hid (Row W7 (some ⟨g3, 0, none⟩) (replOf zs (T (nth zs (n - 1) - 97).toNat) least)) := hR3
  have HG17 : Hid _ := hg17
  have HG27 : Hid _ := hg27
  have hg2ne : g3 ≠ g2 := by omega
  generalize hrs : T (nth zs (n - 1) - 97).toNat = rs at *
  clear hrp hg17 hg27 hB7 hR3 HB6 HG6 HG2 HS6 hb6 HMOD
  go_wp2_with (refine wpList_load_row rfl 29 (.tmp 4) rfl w.heap.size rfl 29 out (0, 0) _ hb7 Try.underlying29 rfl i29' ?_)
  refine Calls.mono HRP.out ?_
  intro e W8 hout
  generalize hL : replOf zs rs least = L at *
  rw [replOf, hl] at hL
  by_cases hA : pickTo zs rs rs.length < 0 ∨ (meas (zs.take (n - (sufAt rs (pickTo zs rs rs.length).toNat).size)) : Int) ≤ least
  · rw [if_pos hA] at hL
    obtain ⟨rfl, hB8⟩ := hout.1 hA
    have hLn : L.length = n := by rw [← hL]; exact hl
    have HLn : Hid _ := hLn
    have RW : Hid (Row W8 (some ⟨g3, 0, none⟩) zs) := by
      have := Row.below R3.out hB8
      rwa [← hL] at this
    have RI : Hid (Row W8 (some ⟨g2, 0, none⟩) zs) := Row.below (Row.own HG27.out) hB8
    have RO : Hid (Row W8 (some ⟨g1, 0, none⟩) zs) := Row.below (Row.own HG17.out) hB8
    have HB8 : Hid (Below w.heap.size w W8) := below_lift HB7.out hB8
    clear hout hB8 HRP hb7 R3 HG17 HG27 hL hA hLn
    go_wp2_with fail
    rw [HLn.out]
    refine (same_eq _ _ n n n zs hl (by omega) W8 RI.out RW.out).mono ?_
    rintro e w' ⟨rfl, nq1, rfl⟩
    go_wp2_with fail
    refine (rest_fits _ _ _ n n n n n zs zs zs hl hl hl (by omega) (Nat.le_refl _) _ (Row.below RI.out (below_drewN (Below.refl _ _) _)) (Row.below RI.out (below_drewN (Below.refl _ _) _)) (Row.below RO.out (below_drewN (Below.refl _ _) _)) (fun _ _ => rfl) (fun _ _ _ => rfl)).mono ?_
    rintro e w' ⟨rfl, nq2, rfl⟩
    go_wp2_with fail
    go_ret
    exact ⟨rfl, by repeat (first | with_reducible exact HB8.out | with_reducible refine below_drewN ?_ _)⟩
  · rw [if_neg hA] at hL
    have happ := hout.2 (by omega) (by omega)
    have htb : (sb (withAt rs (pickTo zs rs rs.length).toNat)).length ≤ 1048576 := by
      rw [length_sb]
      have hpb := pickTo_bd zs rs rs.length
      have hq : (pickTo zs rs rs.length).toNat < rs.length := by omega
      have := HSM.out (nth zs (n - 1) - 97).toNat (by omega)
      rw [hrs] at this
      exact (this.2 _ hq).2
    clear hout hA HRP
    have hmn : n - (sufAt rs (pickTo zs rs rs.length).toNat).size ≤ n := by omega
    generalize n - (sufAt rs (pickTo zs rs rs.length).toNat).size = m at *
    generalize sb (withAt rs (pickTo zs rs rs.length).toNat) = t at *
    have HT : Hid (t.length ≤ 1048576) := htb
    have hLn : L.length = m + t.length := by rw [← hL, List.length_append, List.length_take]; omega
    have HLn : Hid _ := hLn
    by_cases hfit : m + t.length ≤ n
    · obtain ⟨rfl, hg8, hbut⟩ := happ.1 hfit
      rw [hL, ← hLn] at hg8
      have hZl : (L ++ zs.drop L.length).length = n := by rw [List.length_append, List.length_drop]; omega
      have RI : Hid (Row W8 (some ⟨g2, 0, none⟩) (L ++ zs.drop L.length)) := Row.own hg8
      have RG : Hid (Row W8 (some ⟨g2, 0, none⟩) L) := by
        have := Row.take (Row.own hg8) L.length
        rwa [List.take_left] at this
      have RW : Hid (Row W8 (some ⟨g3, 0, none⟩) L) := Row.but R3.out hg2ne hbut
      have RO : Hid (Row W8 (some ⟨g1, 0, none⟩) zs) := Row.but (Row.own HG17.out) hne2 hbut
      have HB8 : Hid (Below w.heap.size w W8) := HB7.out.trans (hbut.below (by omega) (by omega))
      have hn1 : ∀ j, j < m + t.length → nth (L ++ zs.drop L.length) j = nth L j := fun j hj => nth_append_left _ _ _ (by omega)
      have hn2 : ∀ j, m + t.length ≤ j → j < n → nth (L ++ zs.drop L.length) j = nth zs j := by
        intro j hj _
        obtain ⟨i, rfl⟩ : ∃ i, j = L.length + i := ⟨j - L.length, by omega⟩
        rw [nth_append_right, nth_drop]
      have N1 : Hid _ := hn1
      have N2 : Hid _ := hn2
      have HZ : Hid _ := hZl
      clear happ hg8 hbut hb7 R3 HG17 HG27 hL hLn hn1 hn2 hZl
      go_wp2_with fail
      rw [HLn.out]
      refine (same_eq _ _ (m + t.length) n (m + t.length) L HLn.out (by omega) W8 RG.out RW.out).mono ?_
      rintro e w' ⟨rfl, nq1, rfl⟩
      go_wp2_with fail
      refine (rest_fits _ _ _ n (m + t.length) n n n _ L zs HZ.out HLn.out hl (by omega) hfit _ (Row.below RI.out (below_drewN (Below.refl _ _) _)) (Row.below RG.out (below_drewN (Below.refl _ _) _)) (Row.below RO.out (below_drewN (Below.refl _ _) _)) N1.out N2.out).mono ?_
      rintro e w' ⟨rfl, nq2, rfl⟩
      go_wp2_with fail
      go_ret
      exact ⟨rfl, by repeat (first | with_reducible exact HB8.out | with_reducible refine below_drewN ?_ _)⟩
    · obtain ⟨x, cx, rfl, hRx, hB8⟩ := happ.2 (by omega)
      rw [hL] at hRx
      have RG : Hid (Row W8 (some x) L) := hRx
      have RW : Hid (Row W8 (some ⟨g3, 0, none⟩) L) := Row.below R3.out hB8
      have RI : Hid (Row W8 (some ⟨g2, 0, none⟩) zs) := Row.below (Row.own HG27.out) hB8
      have RO : Hid (Row W8 (some ⟨g1, 0, none⟩) zs) := Row.below (Row.own HG17.out) hB8
      have HB8 : Hid (Below w.heap.size w W8) := below_lift HB7.out hB8
      have htl := HT.out
      clear happ hRx hB8 hb7 R3 HG17 HG27 hL hLn
      go_wp2_with fail
      rw [HLn.out]
      refine (same_eq _ _ (m + t.length) cx (m + t.length) L HLn.out (by omega) W8 RG.out RW.out).mono ?_
      rintro e w' ⟨rfl, nq1, rfl⟩
      go_wp2_with fail
      refine (rest_long _ _ _ n (m + t.length) n cx n zs hl (by omega) (by omega) (by omega) _ (Row.below RI.out (below_drewN (Below.refl _ _) _)) (Row.below RO.out (below_drewN (Below.refl _ _) _))).mono ?_
      rintro e w' ⟨rfl, nq2, rfl⟩
      go_wp2_with fail
      go_ret
      exact ⟨rfl, by repeat (first | with_reducible exact HB8.out | with_reducible refine below_drewN ?_ _)⟩
end Go.Proofs.Qxb6601935a
