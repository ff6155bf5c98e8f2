/-
  The walks of tb1Copy, tb1Same, tb1EndsWith, tb1Join, cut, endsWith: each computes a plain function of lists of numbers.
-/
import Derived.Test.Qxb6601935aProg
import Derived.Test.Qxb6601935aKit
import Derived.Deep.QuietTactic
import Derived.BigQuiet
import Derived.LoopN
import Derived.RegionTactic
import Derived.Lib.SliceRun
namespace Go.Proofs.Qxb6601935a
open Go.RowKit
set_option linter.unusedVariables false

theorem Try.info5 : (Try.prog.info? 5).map (fun i => (i.zero, i.size, i.bytes)) = some (some (.int .u8 0), 1, 1) := by kernel_rfl
theorem eqnil22 (w : World) (a : Option Addr) (n c n' c' : Nat) : (binOp .eql 22 (.slice a n c) (.slice none n' c')).run Try.prog w = .ok (.bool a.isNone) w :=
  Lib.run_eql_slice_nil w _ _ a n c n' c' Try.underlying22

/-! ### tb1Copy -/
theorem copy_nil (w : World) : Calls Try.prog 11 #[.slice none 0 0] w fun e w' => e = .returned (.slice none 0 0) ∧ w = w' := by
  have q22 := eqnil22
  go_enter Try.func11, Try.ntmps11
  go_wp2
  go_ret
  exact ⟨rfl, rfl⟩

set_option maxHeartbeats 400000 in
theorem copy_some (x : Addr) (n c : Nat) (zs : List Int) (hl : zs.length = n) (hn : n ≤ 1048576) (w : World) (hz : Row w (some x) zs) :
    Calls Try.prog 11 #[.slice (some x) n c] w fun e w' => e = .returned (.slice (some ⟨w.heap.size, 0, none⟩) n n) ∧ w' = w.alloc (.cells (bs zs) 5) := by
  obtain ⟨i0', hi, hi1, hi2, hi3⟩ := info_parts Try.info5
  have q22 := eqnil22
  have HZ : Hid _ := hz
  clear hz
  go_enter Try.func11, Try.ntmps11
  go_wp2_with (at_make; refine wpList_make_bytes _ rfl _ _ 22 rfl 5 i0' Try.underlying22 hi hi1 hi2 hi3 _ _ _ _ n rfl rfl rfl rfl (by omega) ?_)
  go_loopw [4] (fun i wr => ∃ t : Nat, t ≤ n ∧ i = .int .i64 t ∧ wr = w.alloc (.cells (bs (fillTo zs n t)) 5)) (fun i _ => n - (intOf i).toNat)
  case atStart => exact ⟨0, by omega, rfl, by rw [fillTo_zero]⟩
  case round =>
    obtain ⟨t, ht, rfl, rfl⟩ := hrel
    by_cases hlt : t < n
    · obtain ⟨b, off, hx, hb, hc⟩ := HZ.out t (by omega)
      obtain rfl := Option.some.inj hx
      have q2 := bs_get (fillTo zs n t) t (by rw [length_fillTo _ _ _ (by omega) (by omega)]; omega)
      have q3 : (bs (fillTo zs n t)).setIfInBounds t (.int .u8 (nth zs t)) = bs (fillTo zs n (t + 1)) := by rw [bs_set, fillTo_step _ _ _ (by omega) (by omega)]
      clear hx
      go_wp2
      go_roundw
      case rel => exact ⟨t + 1, by omega, by go_num, rfl⟩
      case measure => simp [intOf]; omega
    · obtain rfl : t = n := by omega
      go_wp2
      go_ret
      exact ⟨rfl, by rw [fillTo_all _ _ hl]⟩

/-! ### tb1Same: of two rows of the same bytes -/
set_option maxHeartbeats 400000 in
theorem same_eq (a b : Option Addr) (n c c' : Nat) (zs : List Int) (hl : zs.length = n) (hn : n ≤ 9000000000000000000) (w : World) (ha : Row w a zs) (hb : Row w b zs) :
    Calls Try.prog 14 #[.slice a n c, .slice b n c'] w fun e w' => e = .returned (.bool true) ∧ ∃ nq, w' = w.drewN nq := by
  have HA : Hid _ := ha
  have HB : Hid _ := hb
  clear ha hb
  have hne : ((n : Int) != (n : Int)) = false := by simp
  go_enter Try.func14, Try.ntmps14
  go_wp2
  go_loopw [5] (fun i wr => ∃ t : Nat, t ≤ n ∧ i = .int .i64 t ∧ ∃ nq, wr = w.drewN nq) (fun i _ => n - (intOf i).toNat)
  case atStart => exact ⟨0, by omega, rfl, 0, rfl⟩
  case round =>
    obtain ⟨t, ht, rfl, nq, rfl⟩ := hrel
    by_cases hlt : t < n
    · obtain ⟨p, off, rfl, hp, hc⟩ := HA.out t (by omega)
      obtain ⟨p', off', rfl, hp', hc'⟩ := HB.out t (by omega)
      have hlt' : (t : Int) < (n : Int) := by omega
      go_wp2
      go_quiet (fail)
      go_wp2
      go_roundw
      case rel => exact ⟨t + 1, by omega, by go_num, _, rfl⟩
      case measure => simp [intOf]; omega
    · obtain rfl : t = n := by omega
      go_wp2
      go_ret
      exact ⟨rfl, nq, rfl⟩

/-! ### tb1EndsWith -/
/-- Does zs end with ys? -/
def endsB (zs ys : List Int) : Bool := decide (ys.length ≤ zs.length ∧ zs.drop (zs.length - ys.length) = ys)
theorem endsB_long {zs ys : List Int} (h : zs.length < ys.length) : endsB zs ys = false := by simp [endsB]; omega
theorem endsB_yes {zs ys : List Int} (h : ys.length ≤ zs.length) (e : ∀ j, j < ys.length → nth zs (zs.length - ys.length + j) = nth ys j) : endsB zs ys = true := by
  simp only [endsB, decide_eq_true_eq]
  refine ⟨h, ext_nth (by simp; omega) fun j hj => ?_⟩
  rw [nth_drop]
  exact e j (by simp at hj; omega)
theorem endsB_no {zs ys : List Int} (j : Nat) (hj : j < ys.length) (e : nth zs (zs.length - ys.length + j) ≠ nth ys j) : endsB zs ys = false := by
  simp only [endsB, decide_eq_false_iff_not]
  rintro ⟨_, h⟩
  apply e
  rw [← nth_drop, h]
theorem ret_bool {a b : Bool} (h : a = b) : Ending.returned (.bool a) = .returned (.bool b) := by rw [h]

set_option maxHeartbeats 400000 in
theorem ends_any (a : Option Addr) (n c : Nat) (zs : List Int) (hl : zs.length = n) (hn : n ≤ 1048576) (s : ByteArray) (hs : s.size ≤ 1048576) (w : World) (ha : Row w a zs) :
    Calls Try.prog 21 #[.slice a n c, .string s] w fun e w' => e = .returned (.bool (endsB zs (sb s))) ∧ ∃ nq, w' = w.drewN nq := by
  by_cases hlong : n < s.size
  · rw [endsB_long (by rw [length_sb]; omega)]
    go_enter Try.func21, Try.ntmps21
    go_wp2
    go_ret
    exact ⟨rfl, 0, rfl⟩
  have HA : Hid _ := ha
  have hlong' : s.size ≤ n := by omega
  clear ha hlong
  go_enter Try.func21, Try.ntmps21
  go_wp2
  go_loopw [6] (fun i wr => ∃ t : Nat, t ≤ s.size ∧ i = .int .i64 t ∧ (∀ j, j < t → nth zs (n - s.size + j) = nth (sb s) j) ∧ ∃ nq, wr = w.drewN nq) (fun i _ => s.size - (intOf i).toNat)
  case atStart => exact ⟨0, by omega, rfl, fun j hj => by omega, 0, rfl⟩
  case round =>
    obtain ⟨t, ht, rfl, hj, nq, rfl⟩ := hrel
    have HJ : Hid _ := hj
    clear hj
    by_cases hlt : t < s.size
    · obtain ⟨p, off, rfl, hp, hc⟩ := HA.out (n - s.size + t) (by omega)
      have hlt' : (t : Int) < (s.size : Int) := by omega
      have hb1 : (0 : Int) ≤ (n : Int) - (s.size : Int) + (t : Int) := by omega
      have hb2 : (n : Int) - (s.size : Int) + (t : Int) < (n : Int) := by omega
      go_wp2
      go_quiet (fail)
      go_wp2
      · have hne : (nth zs (n - s.size + t) != ((s[t]'hlt).toNat : Int)) = true := by assumption
        have hno : endsB zs (sb s) = false := endsB_no t (by rw [length_sb]; exact hlt) (by rw [length_sb, hl, nth_sb s t hlt]; simpa using hne)
        go_ret
        exact ⟨ret_bool hno.symm, _, World.drewN_drewN _ _ _⟩
      · have heq : (nth zs (n - s.size + t) != ((s[t]'hlt).toNat : Int)) = false := by assumption
        have hyes : nth zs (n - s.size + t) = nth (sb s) t := by rw [nth_sb s t hlt]; simpa using heq
        go_roundw
        case rel =>
          refine ⟨t + 1, by omega, by go_num, fun j hj => ?_, _, rfl⟩
          rcases Nat.lt_or_ge j t with h | h
          · exact HJ.out j h
          · obtain rfl : j = t := by omega
            exact hyes
        case measure => simp [intOf]; omega
    · obtain rfl : t = s.size := by omega
      go_wp2
      go_ret
      exact ⟨ret_bool (endsB_yes (by rw [length_sb]; omega) (by rw [length_sb, hl]; exact HJ.out)).symm, nq, rfl⟩

/-! ### tb1Join -/
set_option maxHeartbeats 800000 in
theorem join_any (a : Option Addr) (n c m : Nat) (zs : List Int) (hl : zs.length = n) (hn : n ≤ 1048576) (hm : m ≤ n) (s : ByteArray) (hs : s.size ≤ 1048576) (w : World) (ha : Row w a zs) :
    Calls Try.prog 30 #[.slice a n c, .int .i64 (m : Int), .string s] w fun e w' => e = .returned (.slice (some ⟨w.heap.size, 0, none⟩) (m + s.size) (m + s.size)) ∧ w' = w.alloc (.cells (bs (zs.take m ++ sb s)) 5) := by
  obtain ⟨i0', hi, hi1, hi2, hi3⟩ := info_parts Try.info5
  have HA : Hid _ := ha
  obtain ⟨L, hL⟩ : ∃ L, L = zs.take m ++ sb s := ⟨_, rfl⟩
  have hlen : L.length = m + s.size := by rw [hL, List.length_append, length_sb, List.length_take]; omega
  have N1 : Hid (∀ j, j < m → nth L j = nth zs j) := by
    intro j hj
    rw [hL, nth_append_left _ _ _ (by simp; omega), nth_take _ _ _ hj]
  have N2 : Hid (∀ j, (h : j < s.size) → nth L (m + j) = ((s[j]'h).toNat : Int)) := by
    intro j hj
    have e : m = (zs.take m).length := by simp; omega
    rw [hL]
    conv => lhs; arg 2; rw [e]
    rw [nth_append_right, nth_sb s j hj]
  rw [← hL]
  clear ha hL
  go_enter Try.func30, Try.ntmps30
  go_wp2_with (at_make; refine wpList_make_bytes _ rfl _ _ 22 rfl 5 i0' Try.underlying22 hi hi1 hi2 hi3 _ _ _ _ (m + s.size) rfl rfl (by omega) (by omega) (by omega) ?_)
  go_loopw [8] (fun i wr => ∃ t : Nat, t ≤ m ∧ i = .int .i64 t ∧ wr = w.alloc (.cells (bs (fillTo L (m + s.size) t)) 5)) (fun i _ => m - (intOf i).toNat)
  case atStart => exact ⟨0, by omega, rfl, by rw [fillTo_zero]⟩
  case round =>
    obtain ⟨t, ht, rfl, rfl⟩ := hrel
    by_cases hlt : t < m
    · obtain ⟨b, off, rfl, hb, hc⟩ := HA.out t (by omega)
      rw [← N1.out t hlt] at hc
      have q2 := bs_get (fillTo L (m + s.size) t) t (by rw [length_fillTo _ _ _ (by omega) (by omega)]; omega)
      have q3 : (bs (fillTo L (m + s.size) t)).setIfInBounds t (.int .u8 (nth L t)) = bs (fillTo L (m + s.size) (t + 1)) := by rw [bs_set, fillTo_step _ _ _ (by omega) (by omega)]
      go_wp2
      go_roundw
      case rel => exact ⟨t + 1, by omega, by go_num, rfl⟩
      case measure => simp [intOf]; omega
    · obtain rfl : t = m := by omega
      clear hlt
      go_wp2
      go_loopw [9] (fun i wr => ∃ r : Nat, r ≤ s.size ∧ i = .int .i64 r ∧ wr = w.alloc (.cells (bs (fillTo L (t + s.size) (t + r))) 5)) (fun i _ => s.size - (intOf i).toNat)
      case atStart => exact ⟨0, by omega, rfl, rfl⟩
      case round =>
        obtain ⟨r, hr, rfl, rfl⟩ := hrel
        by_cases hlt : r < s.size
        · have q1 := N2.out r hlt
          have q2 := bs_get (fillTo L (t + s.size) (t + r)) (t + r) (by rw [length_fillTo _ _ _ (by omega) (by omega)]; omega)
          have q3 : (bs (fillTo L (t + s.size) (t + r))).setIfInBounds (t + r) (.int .u8 ((s[r]'hlt).toNat : Int)) = bs (fillTo L (t + s.size) (t + (r + 1))) := by
            rw [← q1, bs_set, fillTo_step _ _ _ (by omega) (by omega)]; rfl
          clear q1
          go_wp2
          go_roundw
          case rel => exact ⟨r + 1, by omega, by go_num, rfl⟩
          case measure => simp [intOf]; omega
        · obtain rfl : r = s.size := by omega
          go_wp2
          go_ret
          exact ⟨rfl, by rw [fillTo_all _ _ hlen]⟩

/-! ### cut, endsWith -/
theorem eq_empty {s : ByteArray} (h : s.size = 0) : s = ⟨#[]⟩ := by
  obtain ⟨d⟩ := s
  have : d = #[] := Array.eq_empty_of_size_eq_zero h
  rw [this]
theorem str_ne {zs : List Int} (hr : ∀ j, 0 ≤ nth zs j ∧ nth zs j ≤ 255) {s : ByteArray} (hs : s.size ≤ zs.length) : (!((strOfNums (zs.drop (zs.length - s.size))).toList == s.toList)) = !(endsB zs (sb s)) := by
  congr 1
  have h1 := sb_strOf (zs.drop (zs.length - s.size)) (fun j => by rw [nth_drop]; exact hr _)
  by_cases h : zs.drop (zs.length - s.size) = sb s
  · have e : endsB zs (sb s) = true := by simp [endsB, length_sb, h, hs]
    rw [e, beq_iff_eq, ByteArray.toList_eq, ByteArray.toList_eq]
    rw [h] at h1
    rw [h]
    have h2 : ((strOfNums (sb s)).data.toList.map (fun c : UInt8 => (c.toNat : Int))) = s.data.toList.map (fun c : UInt8 => (c.toNat : Int)) := h1
    exact List.map_inj_right (fun a b hab => UInt8.toNat_inj.1 (by omega)) |>.1 h2
  · have e : endsB zs (sb s) = false := by simp [endsB, length_sb, h]
    rw [e, beq_eq_false_iff_ne, ByteArray.toList_eq, ByteArray.toList_eq]
    intro hh
    apply h
    rw [← h1]
    simp [sb, hh]

set_option maxHeartbeats 400000 in
theorem cut_yes (b off n c : Nat) (zs : List Int) (hl : zs.length = n) (hn : n ≤ 1048576) (hnc : n ≤ c) (hr : ∀ j, 0 ≤ nth zs j ∧ nth zs j ≤ 255) (s : ByteArray) (hs : s.size ≤ 1048576) (w : World) (ha : Row w (some ⟨b, off, none⟩) zs) (he : endsB zs (sb s) = true) :
    Calls Try.prog 39 #[.slice (some ⟨b, off, none⟩) n c, .string s] w fun e w' => e = .returned (.tuple #[.slice (some ⟨b, off, none⟩) (n - s.size) c, .bool true]) ∧ w = w' := by
  have hsz : s.size ≤ n := by
    have : (sb s).length ≤ zs.length := (by simpa [endsB] using he : _ ∧ _).1
    rw [length_sb] at this; omega
  have hne := str_ne hr (s := s) (by omega)
  rw [he, hl] at hne
  have hlen : (zs.drop (n - s.size)).length = n - (n - s.size) := by rw [List.length_drop, hl]
  have hcell : ∀ i, i < n - (n - s.size) → w.cell? ⟨b, off + (n - s.size) + i, none⟩ = some (.int .u8 ((zs.drop (n - s.size)).getD i 0)) := by
    intro i hi
    obtain ⟨b', off', hx, _, h3⟩ := ha (n - s.size + i) (by omega)
    simp only [Option.some.injEq, Addr.mk.injEq, and_true] at hx
    obtain ⟨rfl, rfl⟩ := hx
    rw [Nat.add_assoc, h3]
    have := nth_drop zs (n - s.size) i
    rw [← this]
    rfl
  by_cases hcn : c = n - s.size
  · obtain ⟨h0, rfl⟩ : s.size = 0 ∧ c = n := by omega
    have hcv := run_convert_bytes_arg w 38 5 Try.underlying38 Try.underlying5 b off 0 0 [] rfl (fun i hi => by omega) 9 Try.underlying9
    obtain rfl := eq_empty h0
    have hemp : (strOfNums []).toList.isEmpty = true := by rw [ByteArray.toList_eq]; rfl
    clear hcell hr ha hlen he hne hcn
    go_enter Try.func39, Try.ntmps39
    go_wp2
    go_ret2
    exact ⟨rfl, rfl⟩
  · have hcv := run_convert_bytes_arg w 38 5 Try.underlying38 Try.underlying5 b (off + (n - s.size)) (n - (n - s.size)) (c - (n - s.size)) (zs.drop (n - s.size)) hlen hcell 9 Try.underlying9
    clear hcell hr ha hlen he
    go_enter Try.func39, Try.ntmps39
    go_wp2
    go_ret2
    exact ⟨rfl, rfl⟩

set_option maxHeartbeats 400000 in
theorem cut_no (b off n c : Nat) (zs : List Int) (hl : zs.length = n) (hn : n ≤ 1048576) (hnc : n ≤ c) (hr : ∀ j, 0 ≤ nth zs j ∧ nth zs j ≤ 255) (s : ByteArray) (hs : s.size ≤ 1048576) (w : World) (ha : Row w (some ⟨b, off, none⟩) zs) (he : endsB zs (sb s) = false) :
    Calls Try.prog 39 #[.slice (some ⟨b, off, none⟩) n c, .string s] w fun e w' => e = .returned (.tuple #[.slice (some ⟨b, off, none⟩) n c, .bool false]) ∧ w = w' := by
  by_cases hsz : n < s.size
  · go_enter Try.func39, Try.ntmps39
    go_wp2
    go_ret2
    exact ⟨rfl, rfl⟩
  have hne := str_ne hr (s := s) (by omega)
  rw [he, hl] at hne
  have hlen : (zs.drop (n - s.size)).length = n - (n - s.size) := by rw [List.length_drop, hl]
  have hcell : ∀ i, i < n - (n - s.size) → w.cell? ⟨b, off + (n - s.size) + i, none⟩ = some (.int .u8 ((zs.drop (n - s.size)).getD i 0)) := by
    intro i hi
    obtain ⟨b', off', hx, _, h3⟩ := ha (n - s.size + i) (by omega)
    simp only [Option.some.injEq, Addr.mk.injEq, and_true] at hx
    obtain ⟨rfl, rfl⟩ := hx
    rw [Nat.add_assoc, h3]
    have := nth_drop zs (n - s.size) i
    rw [← this]
    rfl
  by_cases hcn : c = n - s.size
  · obtain ⟨h0, _⟩ : s.size = 0 ∧ c = n := by omega
    have hl0 : sb s = [] := List.eq_nil_of_length_eq_zero (by rw [length_sb]; exact h0)
    rw [hl0] at he
    simp [endsB] at he
  · have hcv := run_convert_bytes_arg w 38 5 Try.underlying38 Try.underlying5 b (off + (n - s.size)) (n - (n - s.size)) (c - (n - s.size)) (zs.drop (n - s.size)) hlen hcell 9 Try.underlying9
    clear hcell hr ha hlen he
    go_enter Try.func39, Try.ntmps39
    go_wp2
    go_ret2
    exact ⟨rfl, rfl⟩

theorem cut_nil (s : ByteArray) (hs : s.size ≤ 1048576) (h0 : 0 < s.size) (w : World) :
    Calls Try.prog 39 #[.slice none 0 0, .string s] w fun e w' => e = .returned (.tuple #[.slice none 0 0, .bool false]) ∧ w = w' := by
  go_enter Try.func39, Try.ntmps39
  go_wp2
  go_ret2
  exact ⟨rfl, rfl⟩

theorem has_any (b off n c : Nat) (zs : List Int) (hl : zs.length = n) (hn : n ≤ 1048576) (hnc : n ≤ c) (hr : ∀ j, 0 ≤ nth zs j ∧ nth zs j ≤ 255) (s : ByteArray) (hs : s.size ≤ 1048576) (w : World) (ha : Row w (some ⟨b, off, none⟩) zs) :
    Calls Try.prog 38 #[.slice (some ⟨b, off, none⟩) n c, .string s] w fun e w' => e = .returned (.bool (endsB zs (sb s))) ∧ w = w' := by
  cases he : endsB zs (sb s) with
  | true =>
    have C : Hid _ := cut_yes b off n c zs hl hn hnc hr s hs w ha he
    clear ha hr he
    go_enter Try.func38, Try.ntmps38
    go_wp2_with fail
    refine Calls.mono C.out ?_
    rintro e w' ⟨rfl, rfl⟩
    go_wp2
    go_ret
    exact ⟨rfl, rfl⟩
  | false =>
    have C : Hid _ := cut_no b off n c zs hl hn hnc hr s hs w ha he
    clear ha hr he
    go_enter Try.func38, Try.ntmps38
    go_wp2_with fail
    refine Calls.mono C.out ?_
    rintro e w' ⟨rfl, rfl⟩
    go_wp2
    go_ret
    exact ⟨rfl, rfl⟩

theorem has_nil (s : ByteArray) (hs : s.size ≤ 1048576) (h0 : 0 < s.size) (w : World) :
    Calls Try.prog 38 #[.slice none 0 0, .string s] w fun e w' => e = .returned (.bool false) ∧ w = w' := by
  go_enter Try.func38, Try.ntmps38
  go_wp2_with fail
  refine (cut_nil s hs h0 _).mono ?_
  rintro e w' ⟨rfl, rfl⟩
  go_wp2
  go_ret
  exact ⟨rfl, rfl⟩
end Go.Proofs.Qxb6601935a
