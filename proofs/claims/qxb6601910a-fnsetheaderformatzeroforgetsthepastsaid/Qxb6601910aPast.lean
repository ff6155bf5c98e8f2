/-
  The walk of FnSetHeaderFormatZeroForgetsThePast.
-/
import Derived.Test.Qxb6601910aSet
namespace Go.Proofs.Qxb6601910a
open Go.RowKit

theorem zzb17 (ts d len typ sid : Int) (x : Bool) (a : Option Addr) (n c : Nat) (room : Int) (ts' d' len' typ' sid' : Int) (x' : Bool) (a' : Option Addr) (n' c' : Nat) (room' : Int) (hf hl ht hs : Int) (hx : Bool) (hn : n + n' ≤ 1048576) (w : World) :
    Calls Try.prog 17 #[.agg #[.int .u32 ts, .int .u32 d, .int .u32 len, .int .u8 typ, .int .u32 sid, .bool x, .slice a n c, .int .i64 room], .agg #[.int .u32 ts', .int .u32 d', .int .u32 len', .int .u8 typ', .int .u32 sid', .bool x', .slice a' n' c', .int .i64 room'],
      .agg #[.int .u32 hf, .int .u32 hl, .int .u8 ht, .int .u32 hs], .bool hx] w fun e w' => e = .returned (.bool true) ∧ ∃ o1 o2 o3, w' = ((w.alloc o1).alloc o2).alloc o3 := by
  go_enter Try.func17, Try.ntmps17
  go_wp2
  go_ret
  exact ⟨rfl, _, _, _, rfl⟩

theorem zzb17_no (ts d len typ sid : Int) (x : Bool) (a : Option Addr) (n c : Nat) (room : Int) (ts' d' len' typ' sid' : Int) (x' : Bool) (a' : Option Addr) (n' c' : Nat) (room' : Int) (hf hl ht hs : Int) (hx : Bool) (hn : 1048576 < n + n') (hm : n ≤ 9223372036854775807) (hm' : n' ≤ 9223372036854775807) (w : World) :
    Calls Try.prog 17 #[.agg #[.int .u32 ts, .int .u32 d, .int .u32 len, .int .u8 typ, .int .u32 sid, .bool x, .slice a n c, .int .i64 room], .agg #[.int .u32 ts', .int .u32 d', .int .u32 len', .int .u8 typ', .int .u32 sid', .bool x', .slice a' n' c', .int .i64 room'],
      .agg #[.int .u32 hf, .int .u32 hl, .int .u8 ht, .int .u32 hs], .bool hx] w fun e w' => e = .returned (.bool false) ∧ ∃ o1 o2 o3, w' = ((w.alloc o1).alloc o2).alloc o3 := by
  by_cases h1 : 1048576 < n
  · go_enter Try.func17, Try.ntmps17
    go_wp2
    go_ret
    exact ⟨rfl, _, _, _, rfl⟩
  by_cases h2 : 1048576 < n'
  · go_enter Try.func17, Try.ntmps17
    go_wp2
    go_ret
    exact ⟨rfl, _, _, _, rfl⟩
  · go_enter Try.func17, Try.ntmps17
    go_wp2
    go_ret
    exact ⟨rfl, _, _, _, rfl⟩

theorem set_0' (ts d len typ sid : Int) (x : Bool) (p : Value) (room : Int) (hf hl ht hs : Int) (hx : Bool) : Sets 0 ts d len typ sid x p room hf hl ht hs hx hf hf hl ht hs hx :=
  fun w => set_0 w ts d len typ sid x p room hf hl ht hs hx

theorem past_long (ts d len typ sid : Int) (x : Bool) (a : Option Addr) (n c : Nat) (room : Int) (ts' d' len' typ' sid' : Int) (x' : Bool) (a' : Option Addr) (n' c' : Nat) (room' : Int) (hf hl ht hs : Int) (hx : Bool) (hn : 1048576 < n + n') (hm : n ≤ 9223372036854775807) (hm' : n' ≤ 9223372036854775807) (w : World) :
    Calls Try.prog 7 #[.agg #[.int .u32 ts, .int .u32 d, .int .u32 len, .int .u8 typ, .int .u32 sid, .bool x, .slice a n c, .int .i64 room], .agg #[.int .u32 ts', .int .u32 d', .int .u32 len', .int .u8 typ', .int .u32 sid', .bool x', .slice a' n' c', .int .i64 room'],
      .agg #[.int .u32 hf, .int .u32 hl, .int .u8 ht, .int .u32 hs], .bool hx] w fun e w' => e = .returned (.bool true) ∧ Below w.heap.size w w' := by
  go_enter Try.func7, Try.ntmps7
  go_wp2_with fail
  refine (zzb17_no _ _ _ _ _ _ _ _ _ _ _ _ _ _ _ _ _ _ _ _ _ _ _ _ _ hn hm hm' _).mono ?_
  rintro e w' ⟨rfl, o1, o2, o3, rfl⟩
  go_wp2
  go_ret
  exact ⟨rfl, by repeat (first | with_reducible exact Below.refl _ _ | with_reducible refine below_drewN ?_ _ | with_reducible refine below_new ?_ _)⟩

attribute [local go_sem] setCell_drewN alloc_drewN
set_option maxHeartbeats 4000000 in
theorem past_any (ts d len typ sid : Int) (x : Bool) (a : Option Addr) (n c : Nat) (room : Int) (ts' d' len' typ' sid' : Int) (x' : Bool) (a' : Option Addr) (n' c' : Nat) (room' : Int) (hf hl ht hs : Int) (hx : Bool) (hn : n + n' ≤ 1048576) (w : World)
    (zs zs' : List Int) (hnil : a = none → n = 0 ∧ c = 0) (hlz : zs.length = n) (hz : ∀ j, j < n → ∃ b off, a = some ⟨b, off, none⟩ ∧ b < w.heap.size ∧ w.cell? ⟨b, off + j, none⟩ = some (.int .u8 (zs.getD j 0)))
    (hnil' : a' = none → n' = 0 ∧ c' = 0) (hlz' : zs'.length = n') (hz' : ∀ j, j < n' → ∃ b off, a' = some ⟨b, off, none⟩ ∧ b < w.heap.size ∧ w.cell? ⟨b, off + j, none⟩ = some (.int .u8 (zs'.getD j 0))) :
    Calls Try.prog 7 #[.agg #[.int .u32 ts, .int .u32 d, .int .u32 len, .int .u8 typ, .int .u32 sid, .bool x, .slice a n c, .int .i64 room], .agg #[.int .u32 ts', .int .u32 d', .int .u32 len', .int .u8 typ', .int .u32 sid', .bool x', .slice a' n' c', .int .i64 room'],
      .agg #[.int .u32 hf, .int .u32 hl, .int .u8 ht, .int .u32 hs], .bool hx] w fun e w' => e = .returned (.bool true) ∧ Below w.heap.size w w' := by
  have HA : Hid _ := hz
  have HB : Hid _ := hz'
  have HN : Hid _ := hnil
  have HN' : Hid _ := hnil'
  have HL : Hid _ := hlz
  have HL' : Hid _ := hlz'
  clear hz hz' hnil hnil' hlz hlz'
  go_enter Try.func7, Try.ntmps7
  go_wp2_with fail
  refine (zzb17 _ _ _ _ _ _ _ _ _ _ _ _ _ _ _ _ _ _ _ _ _ _ _ _ _ hn _).mono ?_
  rintro e w' ⟨rfl, o1, o2, o3, rfl⟩
  go_wp2_with fail
  have P1 : ∀ (W : World) (X : Addr), a = some X → Below w.heap.size w W → Calls Try.prog 14 #[.slice (some X) n c] W fun e w' => e = .returned (.slice (some ⟨W.heap.size, 0, none⟩) n n) ∧ w' = W.alloc (.cells (bs zs) 5) := by
    intro W X hX hW
    refine clone_some X n c zs HL.out (by omega) W fun j hj => ?_
    obtain ⟨b, off, h1, h2, h3⟩ := HA.out j hj
    rw [hX] at h1
    exact ⟨b, off, Option.some.inj h1, by have := hW.size; omega, (hW.cell (p := ⟨b, off + j, none⟩) h2).trans h3⟩
  have P2 : ∀ (W : World) (X : Addr), a' = some X → Below w.heap.size w W → Calls Try.prog 14 #[.slice (some X) n' c'] W fun e w' => e = .returned (.slice (some ⟨W.heap.size, 0, none⟩) n' n') ∧ w' = W.alloc (.cells (bs zs') 5) := by
    intro W X hX hW
    refine clone_some X n' c' zs' HL'.out (by omega) W fun j hj => ?_
    obtain ⟨b, off, h1, h2, h3⟩ := HB.out j hj
    rw [hX] at h1
    exact ⟨b, off, Option.some.inj h1, by have := hW.size; omega, (hW.cell (p := ⟨b, off + j, none⟩) h2).trans h3⟩
  have H1 : Hid _ := P1
  have H2 : Hid _ := P2
  clear P1 P2 HA HB
  cases a with
  | none =>
    obtain ⟨rfl, rfl⟩ := HN.out rfl
    clear H1 HN HL
    refine (clone_nil _).mono ?_
    rintro e w' ⟨rfl, rfl⟩
    go_wp2_with fail
    cases a' with
    | none =>
      obtain ⟨rfl, rfl⟩ := HN'.out rfl
      clear H2 HN' HL'
      refine (clone_nil _).mono ?_
      rintro e w' ⟨rfl, rfl⟩
      go_wp2_with fail
      refine (runset (set_0' _ _ _ _ _ _ _ _ _ _ _ _ _) ⟨_, _, _, rfl⟩ _).mono ?_
      rintro e w' ⟨rfl, p1, p2, p3, p4, p5, nq, rfl⟩
      go_wp2_with fail
      refine (runset (set_0' _ _ _ _ _ _ _ _ _ _ _ _ _) ⟨_, _, _, rfl⟩ _).mono ?_
      rintro e w' ⟨rfl, q1, q2, q3, q4, q5, nq', rfl⟩
      go_wp2_with fail
      refine (same_nil _).mono ?_
      rintro e w' ⟨rfl, nr, rfl⟩
      go_wp2_with fail
      refine (same_nil _).mono ?_
      rintro e w' ⟨rfl, nr', rfl⟩
      go_wp2
      go_ret
      exact ⟨rfl, by repeat (first | with_reducible exact Below.refl _ _ | with_reducible refine below_drewN ?_ _ | with_reducible refine below_new ?_ _)⟩
    | some X' =>
      refine Calls.mono (H2.out _ X' rfl (by repeat (first | with_reducible exact Below.refl _ _ | with_reducible refine below_drewN ?_ _ | with_reducible refine below_new ?_ _))) ?_
      rintro e w' ⟨rfl, rfl⟩
      clear H2 HN'
      go_wp2_with fail
      refine (runset (set_0' _ _ _ _ _ _ _ _ _ _ _ _ _) ⟨_, _, _, rfl⟩ _).mono ?_
      rintro e w' ⟨rfl, p1, p2, p3, p4, p5, nq, rfl⟩
      go_wp2_with fail
      refine (runset (set_0' _ _ _ _ _ _ _ _ _ _ _ _ _) ⟨_, _, _, rfl⟩ _).mono ?_
      rintro e w' ⟨rfl, q1, q2, q3, q4, q5, nq', rfl⟩
      go_wp2_with fail
      refine (same_nil _).mono ?_
      rintro e w' ⟨rfl, nr, rfl⟩
      go_wp2_with fail
      refine (same_self _ n' n' n' zs' HL'.out (by omega) _ (fun j hj => ?_)).mono ?_
      · have hg := bs_get zs' j (by rw [HL'.out]; exact hj)
        simp [World.cell?_alloc_past, World.cell?_alloc_at, hg]
      rintro e w' ⟨rfl, nr', rfl⟩
      go_wp2
      go_ret
      exact ⟨rfl, by repeat (first | with_reducible exact Below.refl _ _ | with_reducible refine below_drewN ?_ _ | with_reducible refine below_new ?_ _)⟩
  | some X =>
    refine Calls.mono (H1.out _ X rfl (by repeat (first | with_reducible exact Below.refl _ _ | with_reducible refine below_drewN ?_ _ | with_reducible refine below_new ?_ _))) ?_
    rintro e w' ⟨rfl, rfl⟩
    clear H1 HN
    go_wp2_with fail
    cases a' with
    | none =>
      obtain ⟨rfl, rfl⟩ := HN'.out rfl
      clear H2 HN' HL'
      refine (clone_nil _).mono ?_
      rintro e w' ⟨rfl, rfl⟩
      go_wp2_with fail
      refine (runset (set_0' _ _ _ _ _ _ _ _ _ _ _ _ _) ⟨_, _, _, rfl⟩ _).mono ?_
      rintro e w' ⟨rfl, p1, p2, p3, p4, p5, nq, rfl⟩
      go_wp2_with fail
      refine (runset (set_0' _ _ _ _ _ _ _ _ _ _ _ _ _) ⟨_, _, _, rfl⟩ _).mono ?_
      rintro e w' ⟨rfl, q1, q2, q3, q4, q5, nq', rfl⟩
      go_wp2_with fail
      refine (same_self _ n n n zs HL.out (by omega) _ (fun j hj => ?_)).mono ?_
      · have hg := bs_get zs j (by rw [HL.out]; exact hj)
        simp [World.cell?_alloc_past, World.cell?_alloc_at, hg]
      rintro e w' ⟨rfl, nr, rfl⟩
      go_wp2_with fail
      refine (same_nil _).mono ?_
      rintro e w' ⟨rfl, nr', rfl⟩
      go_wp2
      go_ret
      exact ⟨rfl, by repeat (first | with_reducible exact Below.refl _ _ | with_reducible refine below_drewN ?_ _ | with_reducible refine below_new ?_ _)⟩
    | some X' =>
      refine Calls.mono (H2.out _ X' rfl (by repeat (first | with_reducible exact Below.refl _ _ | with_reducible refine below_drewN ?_ _ | with_reducible refine below_new ?_ _))) ?_
      rintro e w' ⟨rfl, rfl⟩
      clear H2 HN'
      go_wp2_with fail
      refine (runset (set_0' _ _ _ _ _ _ _ _ _ _ _ _ _) ⟨_, _, _, rfl⟩ _).mono ?_
      rintro e w' ⟨rfl, p1, p2, p3, p4, p5, nq, rfl⟩
      go_wp2_with fail
      refine (runset (set_0' _ _ _ _ _ _ _ _ _ _ _ _ _) ⟨_, _, _, rfl⟩ _).mono ?_
      rintro e w' ⟨rfl, q1, q2, q3, q4, q5, nq', rfl⟩
      go_wp2_with fail
      refine (same_self _ n n n zs HL.out (by omega) _ (fun j hj => ?_)).mono ?_
      · have hg := bs_get zs j (by rw [HL.out]; exact hj)
        simp [World.cell?_alloc_past, World.cell?_alloc_at, hg]
      rintro e w' ⟨rfl, nr, rfl⟩
      go_wp2_with fail
      refine (same_self _ n' n' n' zs' HL'.out (by omega) _ (fun j hj => ?_)).mono ?_
      · have hg := bs_get zs' j (by rw [HL'.out]; exact hj)
        simp [World.cell?_alloc_past, World.cell?_alloc_at, hg]
      rintro e w' ⟨rfl, nr', rfl⟩
      go_wp2
      go_ret
      exact ⟨rfl, by repeat (first | with_reducible exact Below.refl _ _ | with_reducible refine below_drewN ?_ _ | with_reducible refine below_new ?_ _)⟩
end Go.Proofs.Qxb6601910a
