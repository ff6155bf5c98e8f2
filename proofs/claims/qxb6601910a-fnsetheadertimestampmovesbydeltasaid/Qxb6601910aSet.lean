/-
  The walks of cloneBytes, sameBytes, assembling, setHeader, ZZSetHeader, runSetHeader: each computes a plain function.
-/
import Derived.Test.Qxb6601910aCase
import Derived.RegionTactic
import Derived.Lib.SliceRun
namespace Go.Proofs.Qxb6601910a
open Go.RowKit
attribute [local go_sem] setCell_drewN alloc_drewN

theorem eqnil22 (w : World) (a : Option Addr) (n c n' c' : Nat) : (binOp .eql 22 (.slice a n c) (.slice none n' c')).run Try.prog w = .ok (.bool a.isNone) w :=
  Lib.run_eql_slice_nil w _ _ a n c n' c' Try.underlying22

/-! ### cloneBytes -/
theorem clone_nil (w : World) : Calls Try.prog 14 #[.slice none 0 0] w fun e w' => e = .returned (.slice none 0 0) ∧ w = w' := by
  have q22 := eqnil22
  go_enter Try.func14, Try.ntmps14
  go_wp2
  go_ret
  exact ⟨rfl, rfl⟩

set_option maxHeartbeats 400000 in
theorem clone_some (x : Addr) (n c : Nat) (zs : List Int) (hl : zs.length = n) (hn : n ≤ 1048576) (w : World)
    (hz : ∀ j, j < n → ∃ b off, x = ⟨b, off, none⟩ ∧ b < w.heap.size ∧ w.cell? ⟨b, off + j, none⟩ = some (.int .u8 (zs.getD j 0))) :
    Calls Try.prog 14 #[.slice (some x) n c] w fun e w' => e = .returned (.slice (some ⟨w.heap.size, 0, none⟩) n n) ∧ w' = w.alloc (.cells (bs zs) 5) := by
  obtain ⟨i0', hi, hi1, hi2, hi3⟩ := info_parts Try.info5
  have HZ : Hid _ := hz
  clear hz
  have q22 := eqnil22
  go_enter Try.func14, Try.ntmps14
  go_wp2_with (at_make; refine wpList_make_bytes _ rfl _ _ 22 rfl 5 i0' Try.underlying22 hi hi1 hi2 hi3 _ _ _ _ n rfl rfl rfl rfl (by omega) ?_)
  go_loopw [4] (fun i wr => ∃ t : Nat, t ≤ n ∧ i = .int .i64 t ∧ wr = w.alloc (.cells (bs (fillTo zs n t)) 5)) (fun i _ => n - (intOf i).toNat)
  case atStart => exact ⟨0, by omega, rfl, by rw [fillTo_zero]⟩
  case round =>
    obtain ⟨t, ht, rfl, rfl⟩ := hrel
    by_cases hlt : t < n
    · obtain ⟨b, off, rfl, hb, hc⟩ := HZ.out t hlt
      have q2 := bs_get (fillTo zs n t) t (by rw [length_fillTo _ _ _ (by omega) (by omega)]; omega)
      have q3 : (bs (fillTo zs n t)).setIfInBounds t (.int .u8 (zs.getD t 0)) = bs (fillTo zs n (t + 1)) := by rw [bs_set, fillTo_step _ _ _ (by omega) (by omega)]
      generalize zs.getD t 0 = v at hc q3
      go_wp2
      go_roundw
      case rel => exact ⟨t + 1, by omega, by go_num, rfl⟩
      case measure => simp [intOf]; omega
    · obtain rfl : t = n := by omega
      go_wp2
      go_ret
      exact ⟨rfl, by rw [fillTo_all _ _ hl]⟩

/-! ### sameBytes: of one slice with itself -/
theorem same_nil (w : World) : Calls Try.prog 18 #[.slice none 0 0, .slice none 0 0] w fun e w' => e = .returned (.bool true) ∧ ∃ nq, w' = w.drewN nq := by
  have q22 := eqnil22
  go_enter Try.func18, Try.ntmps18
  go_wp2
  refine wp_loop_rounds 1 ?_
  rw [rounds_succ]
  go_wp2
  go_ret
  exact ⟨rfl, 0, rfl⟩

set_option maxHeartbeats 400000 in
theorem same_self (b n c c' : Nat) (zs : List Int) (hl : zs.length = n) (hn : n ≤ 1048576) (w : World) (hz : ∀ j, j < n → w.cell? ⟨b, j, none⟩ = some (.int .u8 (zs.getD j 0))) :
    Calls Try.prog 18 #[.slice (some ⟨b, 0, none⟩) n c, .slice (some ⟨b, 0, none⟩) n c'] w fun e w' => e = .returned (.bool true) ∧ ∃ nq, w' = w.drewN nq := by
  have HZ : Hid _ := hz
  clear hz
  have hne : ((n : Int) != (n : Int)) = false := by simp
  have q22 := eqnil22
  go_enter Try.func18, Try.ntmps18
  go_wp2
  go_loopw [5] (fun i wr => ∃ t : Nat, t ≤ n ∧ i = .int .i64 t ∧ ∃ nq, wr = w.drewN nq) (fun i _ => n - (intOf i).toNat)
  case atStart => exact ⟨0, by omega, rfl, 0, rfl⟩
  case round =>
    obtain ⟨t, ht, rfl, nq, rfl⟩ := hrel
    by_cases hlt : t < n
    · have hc := HZ.out t hlt
      have hlt' : (t : Int) < (n : Int) := by omega
      generalize zs.getD t 0 = v at hc
      go_wp2
      go_quiet (fail)
      go_wp2
      go_roundw
      case rel => exact ⟨t + 1, by omega, by go_num, _, rfl⟩
      case measure => simp [intOf]; omega
    · obtain rfl : t = n := by omega
      go_wp2
      go_ret
      exact ⟨rfl, nq, rfl⟩

/-! ### setHeader: the chunk stream's block is the last one -/
theorem asm_any (w : World) (B : Nat) (a : Option Addr) (n c : Nat) (hn : n ≤ 1048576) (h : w.cell? ⟨B, 6, none⟩ = some (.slice a n c)) :
    Calls Try.prog 22 #[.pointer (some ⟨B, 0, none⟩)] w fun e w' => e = .returned (.bool (decide (0 < n))) ∧ w = w' := by
  by_cases h0 : 0 < n
  · have e : decide (0 < n) = true := by simpa using h0
    rw [e]
    clear e
    go_enter Try.func22, Try.ntmps22
    go_wp2
    go_ret
    exact ⟨rfl, rfl⟩
  · have e : decide (0 < n) = false := by simpa using h0
    rw [e]
    clear e
    obtain rfl : n = 0 := by omega
    go_enter Try.func22, Try.ntmps22
    go_wp2
    go_ret
    exact ⟨rfl, rfl⟩

/-- The chunk stream as cells. -/
def st (ts d len typ sid : Int) (x : Bool) (p : Value) (room : Int) : Obj := .cells #[.int .u32 ts, .int .u32 d, .int .u32 len, .int .u8 typ, .int .u32 sid, .bool x, p, .int .i64 room] 49

set_option maxHeartbeats 1000000 in
theorem set_0 (w : World) (ts d len typ sid : Int) (x : Bool) (p : Value) (room : Int) (hf hl ht hs : Int) (hx : Bool) :
    Calls Try.prog 21 #[.pointer (some ⟨w.heap.size, 0, none⟩), .int .u8 0, .agg #[.int .u32 hf, .int .u32 hl, .int .u8 ht, .int .u32 hs], .bool hx] (w.alloc (st ts d len typ sid x p room)) fun e w' => e = .returned (.tuple #[]) ∧
      ∃ nq, w' = ((w.alloc (st hf hf hl ht hs hx p room)).alloc (.cells #[.int .u32 hf, .int .u32 hl, .int .u8 ht, .int .u32 hs] 52)).drewN nq := by
  unfold st
  go_enter Try.func21, Try.ntmps21
  go_wp2
  go_region
  go_wp2
  go_end0
  exact ⟨rfl, 1, rfl⟩

set_option maxHeartbeats 1000000 in
theorem set_1 (w : World) (ts d len typ sid : Int) (x : Bool) (p : Value) (room : Int) (hf hl ht hs : Int) (hx : Bool) :
    Calls Try.prog 21 #[.pointer (some ⟨w.heap.size, 0, none⟩), .int .u8 1, .agg #[.int .u32 hf, .int .u32 hl, .int .u8 ht, .int .u32 hs], .bool hx] (w.alloc (st ts d len typ sid x p room)) fun e w' => e = .returned (.tuple #[]) ∧
      ∃ nq, w' = ((w.alloc (st (IntKind.u32.wrap (ts + hf)) hf hl ht sid hx p room)).alloc (.cells #[.int .u32 hf, .int .u32 hl, .int .u8 ht, .int .u32 hs] 52)).drewN nq := by
  unfold st
  go_enter Try.func21, Try.ntmps21
  go_wp2
  go_region
  go_wp2
  go_region
  go_wp2
  go_end0
  exact ⟨rfl, 2, rfl⟩

set_option maxHeartbeats 1000000 in
theorem set_2 (w : World) (ts d len typ sid : Int) (x : Bool) (p : Value) (room : Int) (hf hl ht hs : Int) (hx : Bool) :
    Calls Try.prog 21 #[.pointer (some ⟨w.heap.size, 0, none⟩), .int .u8 2, .agg #[.int .u32 hf, .int .u32 hl, .int .u8 ht, .int .u32 hs], .bool hx] (w.alloc (st ts d len typ sid x p room)) fun e w' => e = .returned (.tuple #[]) ∧
      ∃ nq, w' = ((w.alloc (st (IntKind.u32.wrap (ts + hf)) hf len typ sid hx p room)).alloc (.cells #[.int .u32 hf, .int .u32 hl, .int .u8 ht, .int .u32 hs] 52)).drewN nq := by
  unfold st
  go_enter Try.func21, Try.ntmps21
  go_wp2
  go_region
  go_wp2
  go_end0
  exact ⟨rfl, 1, rfl⟩

set_option maxHeartbeats 1000000 in
theorem set_3n (w : World) (ts d len typ sid : Int) (x : Bool) (a : Option Addr) (c : Nat) (room : Int) (hf hl ht hs : Int) (hx : Bool) :
    Calls Try.prog 21 #[.pointer (some ⟨w.heap.size, 0, none⟩), .int .u8 3, .agg #[.int .u32 hf, .int .u32 hl, .int .u8 ht, .int .u32 hs], .bool hx] (w.alloc (st ts d len typ sid x (.slice a 0 c) room)) fun e w' => e = .returned (.tuple #[]) ∧
      ∃ nq, w' = ((w.alloc (st (IntKind.u32.wrap (ts + d)) d len typ sid x (.slice a 0 c) room)).alloc (.cells #[.int .u32 hf, .int .u32 hl, .int .u8 ht, .int .u32 hs] 52)).drewN nq := by
  unfold st
  go_enter Try.func21, Try.ntmps21
  go_wp2_with (go_at_call 22; refine (asm_any _ w.heap.size a 0 c (by omega) (by simp [World.cell?_alloc_past, World.cell?_alloc_at])).mono ?_; rintro e w' ⟨rfl, rfl⟩)
  go_region
  go_wp2
  go_end0
  exact ⟨rfl, 1, rfl⟩

set_option maxHeartbeats 1000000 in
theorem set_3a (w : World) (ts d len typ sid : Int) (x : Bool) (a : Option Addr) (n c : Nat) (hn : n ≤ 1048576) (hp : 0 < n) (room : Int) (hf hl ht hs : Int) (hx : Bool) :
    Calls Try.prog 21 #[.pointer (some ⟨w.heap.size, 0, none⟩), .int .u8 3, .agg #[.int .u32 hf, .int .u32 hl, .int .u8 ht, .int .u32 hs], .bool hx] (w.alloc (st ts d len typ sid x (.slice a n c) room)) fun e w' => e = .returned (.tuple #[]) ∧
      ∃ nq, w' = ((w.alloc (st ts d len typ sid x (.slice a n c) room)).alloc (.cells #[.int .u32 hf, .int .u32 hl, .int .u8 ht, .int .u32 hs] 52)).drewN nq := by
  unfold st
  have e : decide (0 < n) = true := by simpa using hp
  go_enter Try.func21, Try.ntmps21
  go_wp2_with (go_at_call 22; refine (asm_any _ w.heap.size a n c hn (by simp [World.cell?_alloc_past, World.cell?_alloc_at])).mono ?_; rintro e w' ⟨rfl, rfl⟩)
  go_end0
  exact ⟨rfl, 0, rfl⟩

/-- What setHeader does to a chunk stream, as a contract. -/
def Sets (f ts d len typ sid : Int) (x : Bool) (p : Value) (room : Int) (hf hl ht hs : Int) (hx : Bool) (ts' d' len' typ' sid' : Int) (x' : Bool) : Prop :=
  ∀ w : World, Calls Try.prog 21 #[.pointer (some ⟨w.heap.size, 0, none⟩), .int .u8 f, .agg #[.int .u32 hf, .int .u32 hl, .int .u8 ht, .int .u32 hs], .bool hx] (w.alloc (st ts d len typ sid x p room)) fun e w' => e = .returned (.tuple #[]) ∧
      ∃ nq, w' = ((w.alloc (st ts' d' len' typ' sid' x' p room)).alloc (.cells #[.int .u32 hf, .int .u32 hl, .int .u8 ht, .int .u32 hs] 52)).drewN nq

set_option maxHeartbeats 1000000 in
theorem zzset {f ts d len typ sid : Int} {x : Bool} {p : Value} {room hf hl ht hs : Int} {hx : Bool} {ts' d' len' typ' sid' : Int} {x' : Bool} (H : Sets f ts d len typ sid x p room hf hl ht hs hx ts' d' len' typ' sid' x') (hp : ∃ a n c, p = .slice a n c) (w : World) :
    Calls Try.prog 20 #[.int .u32 ts, .int .u32 d, .int .u32 len, .int .u8 typ, .int .u32 sid, .bool x, p, .int .i64 room, .int .u8 f, .int .u32 hf, .int .u32 hl, .int .u8 ht, .int .u32 hs, .bool hx] w fun e w' =>
      e = .returned (.tuple #[.int .u32 ts', .int .u32 d', .int .u32 len', .int .u8 typ', .int .u32 sid', .bool x', p, .int .i64 room]) ∧
      ∃ nq, w' = ((w.alloc (st ts' d' len' typ' sid' x' p room)).alloc (.cells #[.int .u32 hf, .int .u32 hl, .int .u8 ht, .int .u32 hs] 52)).drewN nq := by
  obtain ⟨a, n, c, rfl⟩ := hp
  go_enter Try.func20, Try.ntmps20
  go_wp2_with fail
  refine (H w).mono ?_
  rintro e w' ⟨rfl, nq, rfl⟩
  unfold st
  go_wp2
  go_quiet (fail)
  go_wp2
  exact bodyPost_ret (v := .tuple #[_, _, _, _, _, _, _, _]) (by simp [results, Try.results20, go_sem]) rfl ⟨rfl, _, World.drewN_drewN _ _ _⟩

set_option maxHeartbeats 1000000 in
theorem runset {f ts d len typ sid : Int} {x : Bool} {p : Value} {room hf hl ht hs : Int} {hx : Bool} {ts' d' len' typ' sid' : Int} {x' : Bool} (H : Sets f ts d len typ sid x p room hf hl ht hs hx ts' d' len' typ' sid' x') (hp : ∃ a n c, p = .slice a n c) (w : World) :
    Calls Try.prog 15 #[.agg #[.int .u32 ts, .int .u32 d, .int .u32 len, .int .u8 typ, .int .u32 sid, .bool x, p, .int .i64 room], .int .u8 f, .agg #[.int .u32 hf, .int .u32 hl, .int .u8 ht, .int .u32 hs], .bool hx] w fun e w' =>
      e = .returned (.agg #[.int .u32 ts', .int .u32 d', .int .u32 len', .int .u8 typ', .int .u32 sid', .bool x', p, .int .i64 room]) ∧ ∃ (o1 o2 o3 o4 o5 : Obj) (nq : Nat), w' = (((((w.alloc o1).alloc o2).alloc o3).alloc o4).alloc o5).drewN nq := by
  have hp' := hp
  obtain ⟨a, n, c, rfl⟩ := hp
  go_enter Try.func15, Try.ntmps15
  go_wp2_with fail
  refine (zzset H hp' _).mono ?_
  rintro e w' ⟨rfl, nq, rfl⟩
  unfold st
  go_wp2
  refine bodyPost_ret (v := .agg #[_, _, _, _, _, _, _, _]) (by simp [results, Try.results15, go_sem]) rfl ⟨rfl, _, _, _, _, _, _, rfl⟩
end Go.Proofs.Qxb6601910a
