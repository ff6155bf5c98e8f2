/-
  The walk of zzRuleSet.
-/
import Derived.Test.Qxb6601935aCopy
namespace Go.Proofs.Qxb6601935a
open Go.RowKit
set_option linter.unusedVariables false
attribute [local go_sem] setCell_drewN alloc_drewN

theorem Try.info54 : (Try.prog.info? 54).map (fun i => (i.zero, i.size, i.bytes)) = some (some (.agg #[.string ⟨#[]⟩, .string ⟨#[]⟩]), 2, 32) := by kernel_rfl
theorem Done.drewN {w : World} {B : Nat} {t : TypeId} {out : Array Value} {T : Nat → RL} {k : Nat} (h : Done w B t out T k) (n : Nat) : Done (w.drewN n) B t out T k := ⟨h.block, h.size, h.done, h.rest⟩

/-- What zzRuleSet hands back: a pointer to a table of the same rules in memory of its own. -/
def ROut (w : World) (T : Nat → RL) (e : Ending) (w' : World) : Prop := ∃ B out, e = .returned (.pointer (some ⟨B, 0, none⟩)) ∧ w'.heap[B]? = some (.cells out 56) ∧ SetAt w' out T ∧ w.heap.size ≤ B ∧ Below w.heap.size w w'

set_option maxHeartbeats 2000000 in
theorem ruleset (arr : Array Value) (T : Nat → RL) (w : World) (hS : SetAt w arr T) (hsm : ∀ k, k < 26 → Small (T k)) :
    Calls Try.prog 37 #[.agg arr] w (ROut w T) := by
  obtain ⟨i0', hi, hi1, hi2, hi3⟩ := info_parts Try.info54
  have HS : Hid _ := hS
  have HT : Hid _ := hsm
  have q28 := eqnil28
  clear hS hsm
  go_enter Try.func37, Try.ntmps37
  go_wp2
  go_loopw [4] (fun i wr => ∃ (k : Nat) (out : Array Value), k ≤ 26 ∧ i = .int .i64 k ∧ wr.heap[w.heap.size]? = some (.cells arr 29) ∧ Done wr (w.heap.size + 1) 56 out T k ∧ Below w.heap.size w wr) (fun i _ => 26 - (intOf i).toNat)
  case atStart =>
    refine ⟨0, nil26, by omega, rfl, ?_, ⟨?_, rfl, fun k' h => by omega, fun k' _ h => nil26_get k' h⟩, ?_⟩
    · rw [Below.heap_alloc _ _ _ (by simp)]
      exact heap_alloc_new w _
    · exact heap_alloc_at (w.alloc (.cells arr 29)) (.cells nil26 56) (by simp)
    · repeat (first | with_reducible exact Below.refl _ _ | with_reducible refine below_new ?_ _)
  case round =>
    obtain ⟨k, out, hk, rfl, b0, hD, hB⟩ := hrel
    have cA : ∀ j, wr.cell? ⟨w.heap.size, j, none⟩ = arr[j]? := fun j => by simp [World.cell?, b0]
    have cO : ∀ j, wr.cell? ⟨w.heap.size + 1, j, none⟩ = out[j]? := fun j => by simp [World.cell?, hD.block]
    have fO : ∀ j, wr.frozen? ⟨w.heap.size + 1, j, none⟩ = false := fun j => by simp [World.frozen?, hD.block]
    have s0 : w.heap.size < wr.heap.size := (Array.getElem?_eq_some_iff.1 b0).1
    have s2 : w.heap.size + 1 < wr.heap.size := (Array.getElem?_eq_some_iff.1 hD.block).1
    have HB0 : Hid _ := b0
    have HD : Hid _ := hD
    have HB : Hid _ := hB
    clear b0 hD hB
    by_cases hlt : k < 26
    · obtain ⟨a, c, h1, h2, h3⟩ := HS.out.2 k hlt
      have o1 := HD.out.rest k (Nat.le_refl _) hlt
      have hb := (HT.out k hlt).1
      cases a with
      | none =>
        have hz := (h2 rfl).1
        clear h2 h3
        go_wp2
        go_roundw
        case rel => exact ⟨k + 1, out, by omega, by go_num, HB0.out, HD.out.skip hlt hz, HB.out⟩
        case measure => simp [intOf]; omega
      | some x =>
        have HR : Hid (Rules wr (some x) (T k)) := h3.below HB.out
        clear h2 h3
        go_wp2_with (at_make; refine wpList_make_exact _ rfl _ _ 52 rfl 54 i0' _ 2 32 Try.underlying52 hi hi1 hi2 hi3 _ _ _ _ (T k).length rfl rfl rfl rfl (by omega) (by omega) _ (made_pairs (T k) _) ?_)
        go_loopw [6] (fun i wi => ∃ (j nq : Nat), j ≤ (T k).length ∧ i = .int .i64 j ∧ wi = (wr.alloc (.cells (fillR (T k) (T k).length j) 54)).drewN nq) (fun i _ => (T k).length - (intOf i).toNat)
        case atStart => exact ⟨0, 0, by omega, rfl, rfl⟩
        case round =>
          obtain ⟨j, nq, hj, rfl, rfl⟩ := hrel
          by_cases hjl : j < (T k).length
          · obtain ⟨b, off, hx, hb', g1, g2⟩ := HR.out j hjl
            obtain rfl := Option.some.inj hx
            obtain ⟨r1, r2⟩ := fillR_get (T k) (T k).length j hjl (by omega)
            have r3 := fillR_step (T k) (T k).length j hjl hjl
            have hjl' : (j : Int) < ((T k).length : Int) := by omega
            have hlt' : (k : Int) < 26 := by omega
            clear hx
            go_wp2
            go_region
            go_wp2
            go_roundw
            case rel => exact ⟨j + 1, _, by omega, by go_num, rfl⟩
            case measure => simp [intOf]; omega
          · obtain rfl : j = (T k).length := by omega
            have hfl := fillR_all (T k)
            go_wp2
            go_roundw
            case rel =>
              have hD' := (HD.out.step (e := 54) hlt).drewN nq
              have hb0 := HB0.out
              refine ⟨k + 1, _, by omega, by go_num, ?_, hD', ?_⟩
              · rw [World.heap_drewN, Below.heap_alloc _ _ _ (by simp [World.setCell]; omega), Below.heap_setCell _ _ _ _ (by simp)]
                exact hb0
              · exact below_drewN ((HB.out.setCell (by simp) _).alloc (by simp [World.setCell]; omega) _) _
            case measure => simp [intOf]; omega
    · obtain rfl : k = 26 := by omega
      go_wp2
      go_ret
      refine ⟨_, out, rfl, HD.out.block, ⟨HD.out.size, fun k' hk' => ?_⟩, by omega, HB.out⟩
      obtain ⟨v, g1, g2⟩ := HD.out.done k' hk'
      obtain ⟨a, c, h1, h2, _, h4⟩ := g2
      exact ⟨a, c, by rw [g1, h1], h2, h4⟩
end Go.Proofs.Qxb6601935a
