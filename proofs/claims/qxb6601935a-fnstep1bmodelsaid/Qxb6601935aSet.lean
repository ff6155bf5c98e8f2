/-
  The rule table: what it is in memory; the walks of zzBytes.. and tb1SetBytes.
-/
import Derived.Test.Qxb6601935aBase
namespace Go.Proofs.Qxb6601935a
open Go.RowKit
set_option linter.unusedVariables false

/-- The rules of one letter: each a suffix and what it is replaced with. -/
abbrev RL := List (ByteArray × ByteArray)
def sufAt (rs : RL) (j : Nat) : ByteArray := (rs.getD j (⟨#[]⟩, ⟨#[]⟩)).1
def withAt (rs : RL) (j : Nat) : ByteArray := (rs.getD j (⟨#[]⟩, ⟨#[]⟩)).2
/-- The rules lie where 'a' leads, two cells each. -/
def Rules (w : World) (a : Option Addr) (rs : RL) : Prop :=
  ∀ j, j < rs.length → ∃ b off, a = some ⟨b, off, none⟩ ∧ b < w.heap.size ∧ w.cell? ⟨b, off + j * 2, none⟩ = some (.string (sufAt rs j)) ∧ w.cell? ⟨b, off + j * 2 + 1, none⟩ = some (.string (withAt rs j))
theorem Rules.below {w W : World} {a : Option Addr} {rs : RL} (h : Rules w a rs) (hb : Below w.heap.size w W) : Rules W a rs := by
  intro j hj
  obtain ⟨b, off, h1, h2, h3, h4⟩ := h j hj
  exact ⟨b, off, h1, Nat.lt_of_lt_of_le h2 hb.size, (hb.cell (p := ⟨b, off + j * 2, none⟩) h2).trans h3, (hb.cell (p := ⟨b, off + j * 2 + 1, none⟩) h2).trans h4⟩
/-- The table: 26 slices. -/
def SetAt (w : World) (arr : Array Value) (T : Nat → RL) : Prop :=
  arr.size = 26 ∧ ∀ k, k < 26 → ∃ a c, arr[k]? = some (.slice a (T k).length c) ∧ (a = none → (T k).length = 0 ∧ c = 0) ∧ Rules w a (T k)
theorem SetAt.below {w W : World} {arr : Array Value} {T : Nat → RL} (h : SetAt w arr T) (hb : Below w.heap.size w W) : SetAt W arr T := by
  refine ⟨h.1, fun k hk => ?_⟩
  obtain ⟨a, c, h1, h2, h3⟩ := h.2 k hk
  exact ⟨a, c, h1, h2, h3.below hb⟩
/-- What the model's integers hold of it. -/
def Sane (T : Nat → RL) : Prop := ∀ k, k < 26 → (T k).length ≤ 9223372036854775807 ∧ ∀ j, j < (T k).length → (sufAt (T k) j).size ≤ 9223372036854775807 ∧ (withAt (T k) j).size ≤ 9223372036854775807
/-- No more than 2^20 rules, no text longer than 2^20. -/
def Small (rs : RL) : Prop := rs.length ≤ 1048576 ∧ ∀ j, j < rs.length → (sufAt rs j).size ≤ 1048576 ∧ (withAt rs j).size ≤ 1048576

/-- What zzBytes.. hands back: no; or yes, and then the table is small. (A plain definition, so that the walk's simp leaves it standing.) -/
def ZOut (w1 : World) (F : Prop) (e : Ending) (w' : World) : Prop := ∃ r : Bool, e = .returned (.bool r) ∧ w' = w1 ∧ (r = true → F)
theorem ZOut.no {w1 : World} {F : Prop} : ZOut w1 F (.returned (.bool false)) w1 := ⟨false, rfl, rfl, fun h => by cases h⟩
theorem ZOut.yes {w1 : World} {F : Prop} (h : F) : ZOut w1 F (.returned (.bool true)) w1 := ⟨true, rfl, rfl, fun _ => h⟩

set_option maxHeartbeats 1000000 in
theorem zzb28 (a : Option Addr) (n c : Nat) (arr : Array Value) (T : Nat → RL) (least : Int) (w : World) (hm : n ≤ 9223372036854775807) (hS : SetAt w arr T) (hsane : Sane T) :
    Calls Try.prog 28 #[.slice a n c, .agg arr, .int .i64 least] w (ZOut (w.alloc (.cells arr 29)) (n ≤ 1048576 ∧ ∀ k, k < 26 → Small (T k))) := by
  by_cases hn : 1048576 < n
  · clear hS
    go_enter Try.func28, Try.ntmps28
    go_wp2
    go_ret
    exact ZOut.no
  have HS : Hid (SetAt (w.alloc (.cells arr 29)) arr T) := hS.below (below_new (Below.refl _ _) _)
  have HT : Hid _ := hsane
  clear hS hsane
  go_enter Try.func28, Try.ntmps28
  go_wp2
  go_loop [7, 8] (fun z i => ∃ (k : Nat) (t : Int), k ≤ 26 ∧ i = .int .i64 k ∧ z = .int .i64 t ∧ 0 ≤ t ∧ t ≤ 1048576 ∧ ∀ k', k' < k → Small (T k')) (fun _ i => 26 - (intOf i).toNat)
  case atStart => exact ⟨0, n, by omega, rfl, rfl, by omega, by omega, fun k' h => by omega⟩
  case round =>
    obtain ⟨k, t, hk, rfl, rfl, t0, t1, hsm⟩ := hrel
    have HM : Hid _ := hsm
    clear hsm
    by_cases hlt : k < 26
    · obtain ⟨a', c', h1, h2, h3⟩ := HS.out.2 k hlt
      have HR : Hid (Rules (w.alloc (.cells arr 29)) a' (T k)) := h3
      have hb := (HT.out k hlt).1
      have HN : Hid (∀ j, j < (T k).length → (sufAt (T k) j).size ≤ 9223372036854775807 ∧ (withAt (T k) j).size ≤ 9223372036854775807) := (HT.out k hlt).2
      clear h2 h3
      by_cases hbig : 1048576 < (T k).length
      · go_wp2
        go_ret
        exact ZOut.no
      by_cases hbig2 : 1048576 < t + ((T k).length : Int)
      · go_wp2
        go_ret
        exact ZOut.no
      go_wp2
      go_loop [7, 9] (fun z i => ∃ (j : Nat) (t' : Int), j ≤ (T k).length ∧ i = .int .i64 j ∧ z = .int .i64 t' ∧ 0 ≤ t' ∧ t' ≤ 1048576 ∧ ∀ j', j' < j → (sufAt (T k) j').size ≤ 1048576 ∧ (withAt (T k) j').size ≤ 1048576) (fun _ i => (T k).length - (intOf i).toNat)
      case atStart => exact ⟨0, _, by omega, rfl, rfl, by omega, by omega, fun j' h => by omega⟩
      case round =>
        obtain ⟨j, t', hj, rfl, rfl, t0', t1', hsm⟩ := hrel
        have HM' : Hid _ := hsm
        clear hsm
        by_cases hjl : j < (T k).length
        · obtain ⟨b, off, rfl, hb', g1, g2⟩ := HR.out j hjl
          obtain ⟨z1, z2⟩ := HN.out j hjl
          generalize hs1 : sufAt (T k) j = s1 at g1 z1
          generalize hs2 : withAt (T k) j = s2 at g2 z2
          have HS1 : Hid _ := hs1
          have HS2 : Hid _ := hs2
          clear hs1 hs2
          go_wp2
          refine wp_loop_rounds 3 ?_
          rw [rounds_succ]
          go_wp2
          · go_ret
            exact ZOut.no
          · go_ret
            exact ZOut.no
          have l1 : (s1.size : Int) ≤ 1048576 := by assumption
          have l2 : t' + (s1.size : Int) ≤ 1048576 := by assumption
          rw [rounds_succ]
          go_wp2
          · go_ret
            exact ZOut.no
          · go_ret
            exact ZOut.no
          have l3 : (s2.size : Int) ≤ 1048576 := by assumption
          have l4 : t' + (s1.size : Int) + (s2.size : Int) ≤ 1048576 := by assumption
          rw [rounds_succ]
          go_wp2
          go_round
          case rel =>
            refine ⟨j + 1, _, by omega, by go_num, rfl, by omega, by omega, fun j' hj' => ?_⟩
            rcases Nat.lt_or_ge j' j with h | h
            · exact HM'.out j' h
            · obtain rfl : j' = j := by omega
              rw [HS1.out, HS2.out]
              exact ⟨by omega, by omega⟩
          case measure => simp [intOf]; omega
        · obtain rfl : j = (T k).length := by omega
          go_wp2
          go_round
          case rel =>
            refine ⟨k + 1, t', by omega, by go_num, rfl, t0', t1', fun k' hk' => ?_⟩
            rcases Nat.lt_or_ge k' k with h | h
            · exact HM.out k' h
            · obtain rfl : k' = k := by omega
              exact ⟨by omega, HM'.out⟩
          case measure => simp [intOf]; omega
    · obtain rfl : k = 26 := by omega
      go_wp2
      go_ret
      exact ZOut.yes ⟨by omega, HM.out⟩

/-- What tb1SetBytes hands back: some number. -/
def TOut (w1 : World) (e : Ending) (w' : World) : Prop := ∃ (t : Int) (nq : Nat), e = .returned (.int .i64 t) ∧ w' = w1.drewN nq
theorem TOut.mk {w1 : World} {t : Int} {nq : Nat} : TOut w1 (.returned (.int .i64 t)) (w1.drewN nq) := ⟨t, nq, rfl, rfl⟩

set_option maxHeartbeats 1000000 in
theorem setb_any (arr : Array Value) (T : Nat → RL) (w : World) (hS : SetAt w arr T) (hsm : ∀ k, k < 26 → Small (T k)) :
    Calls Try.prog 23 #[.agg arr] w (TOut (w.alloc (.cells arr 29))) := by
  have HS : Hid (SetAt (w.alloc (.cells arr 29)) arr T) := hS.below (below_new (Below.refl _ _) _)
  have HT : Hid _ := hsm
  clear hS hsm
  go_enter Try.func23, Try.ntmps23
  go_wp2
  go_loopw [3, 4] (fun z i wr => ∃ (k : Nat) (t : Int), k ≤ 26 ∧ i = .int .i64 k ∧ z = .int .i64 t ∧ 0 ≤ t ∧ t ≤ 1048576 ∧ ∃ nq, wr = (w.alloc (.cells arr 29)).drewN nq) (fun _ i _ => 26 - (intOf i).toNat)
  case atStart => exact ⟨0, 0, by omega, rfl, rfl, by omega, by omega, 0, rfl⟩
  case round =>
    obtain ⟨k, t, hk, rfl, rfl, t0, t1, nq, rfl⟩ := hrel
    by_cases hlt : k < 26
    · obtain ⟨a', c', h1, h2, h3⟩ := HS.out.2 k hlt
      have HR : Hid (Rules (w.alloc (.cells arr 29)) a' (T k)) := h3
      have hb := (HT.out k hlt).1
      have HN : Hid (∀ j, j < (T k).length → (sufAt (T k) j).size ≤ 1048576 ∧ (withAt (T k) j).size ≤ 1048576) := (HT.out k hlt).2
      clear h2 h3
      by_cases hbig2 : 1048576 < t + 32 * ((T k).length : Int)
      · go_wp2
        go_ret
        exact TOut.mk
      go_wp2
      go_loopw [3, 6] (fun z i wr => ∃ (j : Nat) (t' : Int), j ≤ (T k).length ∧ i = .int .i64 j ∧ z = .int .i64 t' ∧ 0 ≤ t' ∧ t' ≤ 1048576 ∧ ∃ nq, wr = (w.alloc (.cells arr 29)).drewN nq) (fun _ i _ => (T k).length - (intOf i).toNat)
      case atStart => exact ⟨0, _, by omega, rfl, rfl, by omega, by omega, nq, rfl⟩
      case round =>
        obtain ⟨j, t', hj, rfl, rfl, t0', t1', nq', rfl⟩ := hrel
        by_cases hjl : j < (T k).length
        · obtain ⟨b, off, rfl, hb', g1, g2⟩ := HR.out j hjl
          obtain ⟨z1, z2⟩ := HN.out j hjl
          generalize sufAt (T k) j = s1 at g1 z1
          generalize withAt (T k) j = s2 at g2 z2
          have hjl' : (j : Int) < ((T k).length : Int) := by omega
          go_wp2
          go_quiet (fail)
          go_wp2
          · go_ret
            exact TOut.mk
          · have l1 : t' + ((s1.size : Int) + (s2.size : Int)) ≤ 1048576 := by assumption
            go_roundw
            case rel => exact ⟨j + 1, _, by omega, by go_num, rfl, by omega, by omega, _, rfl⟩
            case measure => simp [intOf]; omega
        · obtain rfl : j = (T k).length := by omega
          go_wp2
          go_roundw
          case rel => exact ⟨k + 1, t', by omega, by go_num, rfl, t0', t1', nq', rfl⟩
          case measure => simp [intOf]; omega
    · obtain rfl : k = 26 := by omega
      go_wp2
      go_ret
      exact TOut.mk
end Go.Proofs.Qxb6601935a
