/-
  The walk of FnSetHeaderTimestampMovesByDelta.
-/
import Derived.Test.Qxb6601910aSet
namespace Go.Proofs.Qxb6601910a
open Go.RowKit
set_option linter.unusedVariables false
attribute [local go_sem] setCell_drewN alloc_drewN

theorem zzb13 (ts d len typ sid : Int) (x : Bool) (a : Option Addr) (n c : Nat) (room : Int) (f : Int) (hf hl ht hs : Int) (hx : Bool) (hn : n ≤ 1048576) (w : World) :
    Calls Try.prog 13 #[.agg #[.int .u32 ts, .int .u32 d, .int .u32 len, .int .u8 typ, .int .u32 sid, .bool x, .slice a n c, .int .i64 room], .int .u8 f, .agg #[.int .u32 hf, .int .u32 hl, .int .u8 ht, .int .u32 hs], .bool hx] w fun e w' =>
      e = .returned (.bool true) ∧ ∃ o1 o2, w' = (w.alloc o1).alloc o2 := by
  go_enter Try.func13, Try.ntmps13
  go_wp2
  go_ret
  exact ⟨rfl, _, _, rfl⟩

theorem zzb13_no (ts d len typ sid : Int) (x : Bool) (a : Option Addr) (n c : Nat) (room : Int) (f : Int) (hf hl ht hs : Int) (hx : Bool) (hn : 1048576 < n) (hm : n ≤ 9223372036854775807) (w : World) :
    Calls Try.prog 13 #[.agg #[.int .u32 ts, .int .u32 d, .int .u32 len, .int .u8 typ, .int .u32 sid, .bool x, .slice a n c, .int .i64 room], .int .u8 f, .agg #[.int .u32 hf, .int .u32 hl, .int .u8 ht, .int .u32 hs], .bool hx] w fun e w' =>
      e = .returned (.bool false) ∧ ∃ o1 o2, w' = (w.alloc o1).alloc o2 := by
  go_enter Try.func13, Try.ntmps13
  go_wp2
  go_ret
  exact ⟨rfl, _, _, rfl⟩

theorem moves_long (ts d len typ sid : Int) (x : Bool) (a : Option Addr) (n c : Nat) (room : Int) (f : Int) (hf hl ht hs : Int) (hx : Bool) (hn : 1048576 < n) (hm : n ≤ 9223372036854775807) (w : World) :
    Calls Try.prog 6 #[.agg #[.int .u32 ts, .int .u32 d, .int .u32 len, .int .u8 typ, .int .u32 sid, .bool x, .slice a n c, .int .i64 room], .int .u8 f, .agg #[.int .u32 hf, .int .u32 hl, .int .u8 ht, .int .u32 hs], .bool hx] w fun e w' =>
      e = .returned (.bool true) ∧ Below w.heap.size w w' := by
  go_enter Try.func6, Try.ntmps6
  go_wp2_with fail
  refine (zzb13_no _ _ _ _ _ _ _ _ _ _ _ _ _ _ _ _ hn hm _).mono ?_
  rintro e w' ⟨rfl, o1, o2, rfl⟩
  go_wp2
  go_ret
  exact ⟨rfl, by repeat (first | with_reducible exact Below.refl _ _ | with_reducible refine below_drewN ?_ _ | with_reducible refine below_new ?_ _)⟩

theorem moves_out (ts d len typ sid : Int) (x : Bool) (a : Option Addr) (n c : Nat) (room : Int) (f : Int) (hf hl ht hs : Int) (hx : Bool) (hn : n ≤ 1048576) (h3 : 3 < f) (w : World) :
    Calls Try.prog 6 #[.agg #[.int .u32 ts, .int .u32 d, .int .u32 len, .int .u8 typ, .int .u32 sid, .bool x, .slice a n c, .int .i64 room], .int .u8 f, .agg #[.int .u32 hf, .int .u32 hl, .int .u8 ht, .int .u32 hs], .bool hx] w fun e w' =>
      e = .returned (.bool true) ∧ Below w.heap.size w w' := by
  go_enter Try.func6, Try.ntmps6
  go_wp2_with fail
  refine (zzb13 _ _ _ _ _ _ _ _ _ _ _ _ _ _ _ _ hn _).mono ?_
  rintro e w' ⟨rfl, o1, o2, rfl⟩
  go_wp2
  go_ret
  exact ⟨rfl, by repeat (first | with_reducible exact Below.refl _ _ | with_reducible refine below_drewN ?_ _ | with_reducible refine below_new ?_ _)⟩

/-- sameState of a state with itself. -/
theorem state_self (ts d len typ sid : Int) (x : Bool) (g n : Nat) (room : Int) (zs : List Int) (hlz : zs.length = n) (hn : n ≤ 1048576) (w : World) (hg : g < w.heap.size) (hz : ∀ j, j < n → w.cell? ⟨g, j, none⟩ = some (.int .u8 (zs.getD j 0))) :
    Calls Try.prog 16 #[.agg #[.int .u32 ts, .int .u32 d, .int .u32 len, .int .u8 typ, .int .u32 sid, .bool x, .slice (some ⟨g, 0, none⟩) n n, .int .i64 room], .agg #[.int .u32 ts, .int .u32 d, .int .u32 len, .int .u8 typ, .int .u32 sid, .bool x, .slice (some ⟨g, 0, none⟩) n n, .int .i64 room]] w fun e w' =>
      e = .returned (.bool true) ∧ ∃ o1 o2 nq, w' = ((w.alloc o1).alloc o2).drewN nq := by
  have P : ∀ W : World, Below w.heap.size w W → Calls Try.prog 18 #[.slice (some ⟨g, 0, none⟩) n n, .slice (some ⟨g, 0, none⟩) n n] W fun e w' => e = .returned (.bool true) ∧ ∃ nq, w' = W.drewN nq := fun W hW =>
    same_self g n n n zs hlz hn W fun j hj => (hW.cell (p := ⟨g, j, none⟩) hg).trans (hz j hj)
  have H : Hid _ := P
  clear P hz
  go_enter Try.func16, Try.ntmps16
  go_wp2_with fail
  refine Calls.mono (H.out _ (by repeat (first | with_reducible exact Below.refl _ _ | with_reducible refine below_drewN ?_ _ | with_reducible refine below_new ?_ _))) ?_
  rintro e w' ⟨rfl, nq, rfl⟩
  go_wp2
  go_ret
  exact ⟨rfl, _, _, _, rfl⟩

theorem set_0' (ts d len typ sid : Int) (x : Bool) (p : Value) (room : Int) (hf hl ht hs : Int) (hx : Bool) : Sets 0 ts d len typ sid x p room hf hl ht hs hx hf hf hl ht hs hx :=
  fun w => set_0 w ts d len typ sid x p room hf hl ht hs hx
theorem set_1' (ts d len typ sid : Int) (x : Bool) (p : Value) (room : Int) (hf hl ht hs : Int) (hx : Bool) : Sets 1 ts d len typ sid x p room hf hl ht hs hx (IntKind.u32.wrap (ts + hf)) hf hl ht sid hx :=
  fun w => set_1 w ts d len typ sid x p room hf hl ht hs hx
theorem set_2' (ts d len typ sid : Int) (x : Bool) (p : Value) (room : Int) (hf hl ht hs : Int) (hx : Bool) : Sets 2 ts d len typ sid x p room hf hl ht hs hx (IntKind.u32.wrap (ts + hf)) hf len typ sid hx :=
  fun w => set_2 w ts d len typ sid x p room hf hl ht hs hx
theorem set_3n' (ts d len typ sid : Int) (x : Bool) (a : Option Addr) (c : Nat) (room : Int) (hf hl ht hs : Int) (hx : Bool) : Sets 3 ts d len typ sid x (.slice a 0 c) room hf hl ht hs hx (IntKind.u32.wrap (ts + d)) d len typ sid x :=
  fun w => set_3n w ts d len typ sid x a c room hf hl ht hs hx
theorem set_3a' (ts d len typ sid : Int) (x : Bool) (a : Option Addr) (n c : Nat) (hn : n ≤ 1048576) (hp : 0 < n) (room : Int) (hf hl ht hs : Int) (hx : Bool) : Sets 3 ts d len typ sid x (.slice a n c) room hf hl ht hs hx ts d len typ sid x :=
  fun w => set_3a w ts d len typ sid x a n c hn hp room hf hl ht hs hx

set_option maxHeartbeats 1000000 in
theorem moves_0 (ts d len typ sid : Int) (x : Bool) (a : Option Addr) (n c : Nat) (room : Int) (hf hl ht hs : Int) (hx : Bool) (hn : n ≤ 1048576) (w : World) (t0 : 0 ≤ ts) (t1 : ts ≤ 4294967295) (d0 : 0 ≤ d) (d1 : d ≤ 4294967295) (f0 : 0 ≤ hf) (f1 : hf ≤ 4294967295)
    (zs : List Int) (hnil : a = none → n = 0 ∧ c = 0) (hlz : zs.length = n) (hz : ∀ j, j < n → ∃ b off, a = some ⟨b, off, none⟩ ∧ b < w.heap.size ∧ w.cell? ⟨b, off + j, none⟩ = some (.int .u8 (zs.getD j 0))) :
    Calls Try.prog 6 #[.agg #[.int .u32 ts, .int .u32 d, .int .u32 len, .int .u8 typ, .int .u32 sid, .bool x, .slice a n c, .int .i64 room], .int .u8 0, .agg #[.int .u32 hf, .int .u32 hl, .int .u8 ht, .int .u32 hs], .bool hx] w fun e w' =>
      e = .returned (.bool true) ∧ Below w.heap.size w w' := by
  have P1 : ∀ (W : World) (X : Addr), a = some X → Below w.heap.size w W → Calls Try.prog 14 #[.slice (some X) n c] W fun e w' => e = .returned (.slice (some ⟨W.heap.size, 0, none⟩) n n) ∧ w' = W.alloc (.cells (bs zs) 5) := by
    intro W X hX hW
    refine clone_some X n c zs hlz (by omega) W fun j hj => ?_
    obtain ⟨b, off, h1, h2, h3⟩ := hz j hj
    rw [hX] at h1
    exact ⟨b, off, Option.some.inj h1, by have := hW.size; omega, (hW.cell (p := ⟨b, off + j, none⟩) h2).trans h3⟩
  have H1 : Hid _ := P1
  have HN : Hid _ := hnil
  have HL : Hid _ := hlz
  clear P1 hz hnil hlz
  go_enter Try.func6, Try.ntmps6
  go_wp2_with fail
  refine (zzb13 _ _ _ _ _ _ _ _ _ _ _ _ _ _ _ _ hn _).mono ?_
  rintro e w' ⟨rfl, o1, o2, rfl⟩
  go_wp2_with fail
  cases a with
  | none =>
    obtain ⟨h00, rfl⟩ := HN.out rfl
    clear H1 HN HL
    subst h00
    refine (clone_nil _).mono ?_
    rintro e w' ⟨rfl, rfl⟩
    go_wp2_with fail
    refine (runset (set_0' _ _ _ _ _ _ _ _ _ _ _ _ _) ⟨_, _, _, rfl⟩ _).mono ?_
    rintro e w' ⟨rfl, p1, p2, p3, p4, p5, nq, rfl⟩
    go_wp2
    go_ret
    exact ⟨rfl, by repeat (first | with_reducible exact Below.refl _ _ | with_reducible refine below_drewN ?_ _ | with_reducible refine below_new ?_ _)⟩
  | some X =>
    refine Calls.mono (H1.out _ X rfl (by repeat (first | with_reducible exact Below.refl _ _ | with_reducible refine below_drewN ?_ _ | with_reducible refine below_new ?_ _))) ?_
    rintro e w' ⟨rfl, rfl⟩
    clear H1 HN
    go_wp2_with fail
    refine (runset (set_0' _ _ _ _ _ _ _ _ _ _ _ _ _) ⟨_, _, _, rfl⟩ _).mono ?_
    rintro e w' ⟨rfl, p1, p2, p3, p4, p5, nq, rfl⟩
    go_wp2
    go_ret
    exact ⟨rfl, by repeat (first | with_reducible exact Below.refl _ _ | with_reducible refine below_drewN ?_ _ | with_reducible refine below_new ?_ _)⟩

set_option maxHeartbeats 1000000 in
theorem moves_1 (ts d len typ sid : Int) (x : Bool) (a : Option Addr) (n c : Nat) (room : Int) (hf hl ht hs : Int) (hx : Bool) (hn : n ≤ 1048576) (w : World) (t0 : 0 ≤ ts) (t1 : ts ≤ 4294967295) (d0 : 0 ≤ d) (d1 : d ≤ 4294967295) (f0 : 0 ≤ hf) (f1 : hf ≤ 4294967295)
    (zs : List Int) (hnil : a = none → n = 0 ∧ c = 0) (hlz : zs.length = n) (hz : ∀ j, j < n → ∃ b off, a = some ⟨b, off, none⟩ ∧ b < w.heap.size ∧ w.cell? ⟨b, off + j, none⟩ = some (.int .u8 (zs.getD j 0))) :
    Calls Try.prog 6 #[.agg #[.int .u32 ts, .int .u32 d, .int .u32 len, .int .u8 typ, .int .u32 sid, .bool x, .slice a n c, .int .i64 room], .int .u8 1, .agg #[.int .u32 hf, .int .u32 hl, .int .u8 ht, .int .u32 hs], .bool hx] w fun e w' =>
      e = .returned (.bool true) ∧ Below w.heap.size w w' := by
  have P1 : ∀ (W : World) (X : Addr), a = some X → Below w.heap.size w W → Calls Try.prog 14 #[.slice (some X) n c] W fun e w' => e = .returned (.slice (some ⟨W.heap.size, 0, none⟩) n n) ∧ w' = W.alloc (.cells (bs zs) 5) := by
    intro W X hX hW
    refine clone_some X n c zs hlz (by omega) W fun j hj => ?_
    obtain ⟨b, off, h1, h2, h3⟩ := hz j hj
    rw [hX] at h1
    exact ⟨b, off, Option.some.inj h1, by have := hW.size; omega, (hW.cell (p := ⟨b, off + j, none⟩) h2).trans h3⟩
  have H1 : Hid _ := P1
  have HN : Hid _ := hnil
  have HL : Hid _ := hlz
  have e : (ts + hf - ts) % 4294967296 = hf := by omega
  clear P1 hz hnil hlz
  go_enter Try.func6, Try.ntmps6
  go_wp2_with fail
  refine (zzb13 _ _ _ _ _ _ _ _ _ _ _ _ _ _ _ _ hn _).mono ?_
  rintro e w' ⟨rfl, o1, o2, rfl⟩
  go_wp2_with fail
  cases a with
  | none =>
    obtain ⟨h00, rfl⟩ := HN.out rfl
    clear H1 HN HL
    subst h00
    refine (clone_nil _).mono ?_
    rintro e w' ⟨rfl, rfl⟩
    go_wp2_with fail
    refine (runset (set_1' _ _ _ _ _ _ _ _ _ _ _ _ _) ⟨_, _, _, rfl⟩ _).mono ?_
    rintro e w' ⟨rfl, p1, p2, p3, p4, p5, nq, rfl⟩
    go_wp2
    go_ret
    exact ⟨rfl, by repeat (first | with_reducible exact Below.refl _ _ | with_reducible refine below_drewN ?_ _ | with_reducible refine below_new ?_ _)⟩
  | some X =>
    refine Calls.mono (H1.out _ X rfl (by repeat (first | with_reducible exact Below.refl _ _ | with_reducible refine below_drewN ?_ _ | with_reducible refine below_new ?_ _))) ?_
    rintro e w' ⟨rfl, rfl⟩
    clear H1 HN
    go_wp2_with fail
    refine (runset (set_1' _ _ _ _ _ _ _ _ _ _ _ _ _) ⟨_, _, _, rfl⟩ _).mono ?_
    rintro e w' ⟨rfl, p1, p2, p3, p4, p5, nq, rfl⟩
    go_wp2
    go_ret
    exact ⟨rfl, by repeat (first | with_reducible exact Below.refl _ _ | with_reducible refine below_drewN ?_ _ | with_reducible refine below_new ?_ _)⟩

set_option maxHeartbeats 1000000 in
theorem moves_2 (ts d len typ sid : Int) (x : Bool) (a : Option Addr) (n c : Nat) (room : Int) (hf hl ht hs : Int) (hx : Bool) (hn : n ≤ 1048576) (w : World) (t0 : 0 ≤ ts) (t1 : ts ≤ 4294967295) (d0 : 0 ≤ d) (d1 : d ≤ 4294967295) (f0 : 0 ≤ hf) (f1 : hf ≤ 4294967295)
    (zs : List Int) (hnil : a = none → n = 0 ∧ c = 0) (hlz : zs.length = n) (hz : ∀ j, j < n → ∃ b off, a = some ⟨b, off, none⟩ ∧ b < w.heap.size ∧ w.cell? ⟨b, off + j, none⟩ = some (.int .u8 (zs.getD j 0))) :
    Calls Try.prog 6 #[.agg #[.int .u32 ts, .int .u32 d, .int .u32 len, .int .u8 typ, .int .u32 sid, .bool x, .slice a n c, .int .i64 room], .int .u8 2, .agg #[.int .u32 hf, .int .u32 hl, .int .u8 ht, .int .u32 hs], .bool hx] w fun e w' =>
      e = .returned (.bool true) ∧ Below w.heap.size w w' := by
  have P1 : ∀ (W : World) (X : Addr), a = some X → Below w.heap.size w W → Calls Try.prog 14 #[.slice (some X) n c] W fun e w' => e = .returned (.slice (some ⟨W.heap.size, 0, none⟩) n n) ∧ w' = W.alloc (.cells (bs zs) 5) := by
    intro W X hX hW
    refine clone_some X n c zs hlz (by omega) W fun j hj => ?_
    obtain ⟨b, off, h1, h2, h3⟩ := hz j hj
    rw [hX] at h1
    exact ⟨b, off, Option.some.inj h1, by have := hW.size; omega, (hW.cell (p := ⟨b, off + j, none⟩) h2).trans h3⟩
  have H1 : Hid _ := P1
  have HN : Hid _ := hnil
  have HL : Hid _ := hlz
  have e : (ts + hf - ts) % 4294967296 = hf := by omega
  clear P1 hz hnil hlz
  go_enter Try.func6, Try.ntmps6
  go_wp2_with fail
  refine (zzb13 _ _ _ _ _ _ _ _ _ _ _ _ _ _ _ _ hn _).mono ?_
  rintro e w' ⟨rfl, o1, o2, rfl⟩
  go_wp2_with fail
  cases a with
  | none =>
    obtain ⟨h00, rfl⟩ := HN.out rfl
    clear H1 HN HL
    subst h00
    refine (clone_nil _).mono ?_
    rintro e w' ⟨rfl, rfl⟩
    go_wp2_with fail
    refine (runset (set_2' _ _ _ _ _ _ _ _ _ _ _ _ _) ⟨_, _, _, rfl⟩ _).mono ?_
    rintro e w' ⟨rfl, p1, p2, p3, p4, p5, nq, rfl⟩
    go_wp2
    go_ret
    exact ⟨rfl, by repeat (first | with_reducible exact Below.refl _ _ | with_reducible refine below_drewN ?_ _ | with_reducible refine below_new ?_ _)⟩
  | some X =>
    refine Calls.mono (H1.out _ X rfl (by repeat (first | with_reducible exact Below.refl _ _ | with_reducible refine below_drewN ?_ _ | with_reducible refine below_new ?_ _))) ?_
    rintro e w' ⟨rfl, rfl⟩
    clear H1 HN
    go_wp2_with fail
    refine (runset (set_2' _ _ _ _ _ _ _ _ _ _ _ _ _) ⟨_, _, _, rfl⟩ _).mono ?_
    rintro e w' ⟨rfl, p1, p2, p3, p4, p5, nq, rfl⟩
    go_wp2
    go_ret
    exact ⟨rfl, by repeat (first | with_reducible exact Below.refl _ _ | with_reducible refine below_drewN ?_ _ | with_reducible refine below_new ?_ _)⟩

set_option maxHeartbeats 1000000 in
theorem moves_3n (ts d len typ sid : Int) (x : Bool) (a : Option Addr) (c : Nat) (room : Int) (hf hl ht hs : Int) (hx : Bool) (w : World) (t0 : 0 ≤ ts) (t1 : ts ≤ 4294967295) (d0 : 0 ≤ d) (d1 : d ≤ 4294967295) (f0 : 0 ≤ hf) (f1 : hf ≤ 4294967295)
    (zs : List Int) (hnil : a = none → c = 0) (hlz : zs.length = 0) (hz : ∀ j, j < 0 → ∃ b off, a = some ⟨b, off, none⟩ ∧ b < w.heap.size ∧ w.cell? ⟨b, off + j, none⟩ = some (.int .u8 (zs.getD j 0))) :
    Calls Try.prog 6 #[.agg #[.int .u32 ts, .int .u32 d, .int .u32 len, .int .u8 typ, .int .u32 sid, .bool x, .slice a 0 c, .int .i64 room], .int .u8 3, .agg #[.int .u32 hf, .int .u32 hl, .int .u8 ht, .int .u32 hs], .bool hx] w fun e w' =>
      e = .returned (.bool true) ∧ Below w.heap.size w w' := by
  have P1 : ∀ (W : World) (X : Addr), a = some X → Below w.heap.size w W → Calls Try.prog 14 #[.slice (some X) 0 c] W fun e w' => e = .returned (.slice (some ⟨W.heap.size, 0, none⟩) 0 0) ∧ w' = W.alloc (.cells (bs zs) 5) := by
    intro W X hX hW
    refine clone_some X 0 c zs hlz (by omega) W fun j hj => ?_
    obtain ⟨b, off, h1, h2, h3⟩ := hz j hj
    rw [hX] at h1
    exact ⟨b, off, Option.some.inj h1, by have := hW.size; omega, (hW.cell (p := ⟨b, off + j, none⟩) h2).trans h3⟩
  have H1 : Hid _ := P1
  have HN : Hid _ := hnil
  have HL : Hid _ := hlz
  have e : (ts + d - ts) % 4294967296 = d := by omega
  clear P1 hz hnil hlz
  go_enter Try.func6, Try.ntmps6
  go_wp2_with fail
  refine (zzb13 _ _ _ _ _ _ _ _ _ _ _ _ _ _ _ _ (by omega) _).mono ?_
  rintro e w' ⟨rfl, o1, o2, rfl⟩
  go_wp2_with fail
  cases a with
  | none =>
    obtain rfl := HN.out rfl
    clear H1 HN HL
    refine (clone_nil _).mono ?_
    rintro e w' ⟨rfl, rfl⟩
    go_wp2_with fail
    refine (runset (set_3n' _ _ _ _ _ _ _ _ _ _ _ _ _ _) ⟨_, _, _, rfl⟩ _).mono ?_
    rintro e w' ⟨rfl, p1, p2, p3, p4, p5, nq, rfl⟩
    go_wp2
    go_ret
    exact ⟨rfl, by repeat (first | with_reducible exact Below.refl _ _ | with_reducible refine below_drewN ?_ _ | with_reducible refine below_new ?_ _)⟩
  | some X =>
    refine Calls.mono (H1.out _ X rfl (by repeat (first | with_reducible exact Below.refl _ _ | with_reducible refine below_drewN ?_ _ | with_reducible refine below_new ?_ _))) ?_
    rintro e w' ⟨rfl, rfl⟩
    clear H1 HN
    go_wp2_with fail
    refine (runset (set_3n' _ _ _ _ _ _ _ _ _ _ _ _ _ _) ⟨_, _, _, rfl⟩ _).mono ?_
    rintro e w' ⟨rfl, p1, p2, p3, p4, p5, nq, rfl⟩
    go_wp2
    go_ret
    exact ⟨rfl, by repeat (first | with_reducible exact Below.refl _ _ | with_reducible refine below_drewN ?_ _ | with_reducible refine below_new ?_ _)⟩

set_option maxHeartbeats 1000000 in
theorem moves_3a (ts d len typ sid : Int) (x : Bool) (a : Option Addr) (n c : Nat) (room : Int) (hf hl ht hs : Int) (hx : Bool) (hn : n ≤ 1048576) (w : World) (t0 : 0 ≤ ts) (t1 : ts ≤ 4294967295) (d0 : 0 ≤ d) (d1 : d ≤ 4294967295) (f0 : 0 ≤ hf) (f1 : hf ≤ 4294967295) (hp : 0 < n)
    (zs : List Int) (hnil : a = none → n = 0 ∧ c = 0) (hlz : zs.length = n) (hz : ∀ j, j < n → ∃ b off, a = some ⟨b, off, none⟩ ∧ b < w.heap.size ∧ w.cell? ⟨b, off + j, none⟩ = some (.int .u8 (zs.getD j 0))) :
    Calls Try.prog 6 #[.agg #[.int .u32 ts, .int .u32 d, .int .u32 len, .int .u8 typ, .int .u32 sid, .bool x, .slice a n c, .int .i64 room], .int .u8 3, .agg #[.int .u32 hf, .int .u32 hl, .int .u8 ht, .int .u32 hs], .bool hx] w fun e w' =>
      e = .returned (.bool true) ∧ Below w.heap.size w w' := by
  have P1 : ∀ (W : World) (X : Addr), a = some X → Below w.heap.size w W → Calls Try.prog 14 #[.slice (some X) n c] W fun e w' => e = .returned (.slice (some ⟨W.heap.size, 0, none⟩) n n) ∧ w' = W.alloc (.cells (bs zs) 5) := by
    intro W X hX hW
    refine clone_some X n c zs hlz (by omega) W fun j hj => ?_
    obtain ⟨b, off, h1, h2, h3⟩ := hz j hj
    rw [hX] at h1
    exact ⟨b, off, Option.some.inj h1, by have := hW.size; omega, (hW.cell (p := ⟨b, off + j, none⟩) h2).trans h3⟩
  have H1 : Hid _ := P1
  have HN : Hid _ := hnil
  have HL : Hid _ := hlz
  have n0 : ((n : Int) == 0) = false := by simp; omega
  clear P1 hz hnil hlz
  go_enter Try.func6, Try.ntmps6
  go_wp2_with fail
  refine (zzb13 _ _ _ _ _ _ _ _ _ _ _ _ _ _ _ _ hn _).mono ?_
  rintro e w' ⟨rfl, o1, o2, rfl⟩
  go_wp2_with fail
  cases a with
  | none =>
    have := (HN.out rfl).1
    omega
  | some X =>
    refine Calls.mono (H1.out _ X rfl (by repeat (first | with_reducible exact Below.refl _ _ | with_reducible refine below_drewN ?_ _ | with_reducible refine below_new ?_ _))) ?_
    rintro e w' ⟨rfl, rfl⟩
    clear H1 HN
    go_wp2_with fail
    refine (runset (set_3a' _ _ _ _ _ _ _ _ _ hn hp _ _ _ _ _ _) ⟨_, _, _, rfl⟩ _).mono ?_
    rintro e w' ⟨rfl, p1, p2, p3, p4, p5, nq, rfl⟩
    go_wp2_with fail
    refine (state_self _ _ _ _ _ _ _ n _ zs HL.out hn _ (by simp) (fun j hj => ?_)).mono ?_
    · have hg := bs_get zs j (by rw [HL.out]; exact hj)
      simp [World.cell?_alloc_past, World.cell?_alloc_at, hg]
    rintro e w' ⟨rfl, r1, r2, nr, rfl⟩
    go_wp2
    go_ret
    exact ⟨rfl, by repeat (first | with_reducible exact Below.refl _ _ | with_reducible refine below_drewN ?_ _ | with_reducible refine below_new ?_ _)⟩
end Go.Proofs.Qxb6601910a
