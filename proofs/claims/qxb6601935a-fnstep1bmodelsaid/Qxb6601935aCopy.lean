/-
  The walk of tb1CopySet.
-/
import Derived.Test.Qxb6601935aTab
namespace Go.Proofs.Qxb6601935a
open Go.RowKit
set_option linter.unusedVariables false

theorem Try.info43 : (Try.prog.info? 43).map (fun i => (i.zero, i.size, i.bytes)) = some (some (.agg #[.string ⟨#[]⟩, .string ⟨#[]⟩]), 2, 32) := by kernel_rfl
theorem eqnil28 (w : World) (a : Option Addr) (n c n' c' : Nat) : (binOp .eql 28 (.slice a n c) (.slice none n' c')).run Try.prog w = .ok (.bool a.isNone) w :=
  Lib.run_eql_slice_nil w _ _ a n c n' c' Try.underlying28

theorem heap_alloc_at (w : World) (o : Obj) {g : Nat} (h : g = w.heap.size) : (w.alloc o).heap[g]? = some o := by
  subst h
  exact heap_alloc_new w o

theorem below_setRow' {B g : Nat} {w0 w : World} (hb : Below B w0 w) (hBg : B ≤ g) (cs : Array Value) : Below B w0 (w.setRow g cs) :=
  hb.trans ⟨rfl, rfl, rfl, by simp [World.setRow], fun k hk => setRow_other w g k cs (by omega)⟩

/-- 26 nil slices. -/
def nil26 : Array Value := Array.replicate 26 (.slice none 0 0)
theorem nil26_get (k : Nat) (h : k < 26) : nil26[k]? = some (.slice none 0 0) := by simp [nil26, h]

/-- A table under way: block B holds 'out', whose first k entries are done, the others nil. -/
structure Done (w : World) (B : Nat) (t : TypeId) (out : Array Value) (T : Nat → RL) (k : Nat) : Prop where
  block : w.heap[B]? = some (.cells out t)
  size : out.size = 26
  done : ∀ k', k' < k → ∃ v, out[k']? = some v ∧ Ent w B v (T k')
  rest : ∀ k', k ≤ k' → k' < 26 → out[k']? = some (.slice none 0 0)

theorem Done.skip {w : World} {B : Nat} {t : TypeId} {out : Array Value} {T : Nat → RL} {k : Nat} (h : Done w B t out T k) (hk : k < 26) (h0 : (T k).length = 0) : Done w B t out T (k + 1) := by
  refine ⟨h.block, h.size, fun k' hk' => ?_, fun k' h1 h2 => h.rest k' (by omega) h2⟩
  rcases Nat.lt_or_ge k' k with h1 | h1
  · exact h.done k' h1
  · obtain rfl : k' = k := by omega
    refine ⟨_, h.rest k' (Nat.le_refl _) hk, ?_⟩
    rw [List.eq_nil_of_length_eq_zero h0]
    exact Ent.nil w B

/-- A new row is laid and stored as entry k. -/
theorem Done.step {w : World} {B : Nat} {t e : TypeId} {out : Array Value} {T : Nat → RL} {k : Nat} (h : Done w B t out T k) (hk : k < 26) :
    Done ((w.setCell ⟨B, k, none⟩ (.slice (some ⟨w.heap.size, 0, none⟩) (T k).length (T k).length)).alloc (.cells (flat (T k)).toArray e)) B t (out.setIfInBounds k (.slice (some ⟨w.heap.size, 0, none⟩) (T k).length (T k).length)) T (k + 1) := by
  have hB : B < w.heap.size := (Array.getElem?_eq_some_iff.1 h.block).1
  obtain ⟨W, hW⟩ : ∃ W, W = w.setCell ⟨B, k, none⟩ (.slice (some ⟨w.heap.size, 0, none⟩) (T k).length (T k).length) := ⟨_, rfl⟩
  have hsz : W.heap.size = w.heap.size := by rw [hW]; simp [World.setCell]
  have hblk : W.heap[B]? = some (.cells (out.setIfInBounds k (.slice (some ⟨w.heap.size, 0, none⟩) (T k).length (T k).length)) t) := by
    rw [hW]; exact heap_setCell_same w B k out t _ h.block
  have hoth : ∀ b, b ≠ B → W.heap[b]? = w.heap[b]? := by
    intro b hb
    rw [hW]
    exact Below.heap_setCell _ _ _ _ hb
  rw [← hW]
  refine ⟨?_, by simpa using h.size, fun k' hk' => ?_, fun k' h1 h2 => ?_⟩
  · rw [Below.heap_alloc _ _ _ (by omega), hblk]
  · rcases Nat.lt_or_ge k' k with h1 | h1
    · obtain ⟨v, g1, g2⟩ := h.done k' h1
      refine ⟨v, by rw [Array.getElem?_setIfInBounds_ne (by omega)]; exact g1, g2.kept (by simp [hsz]) fun b hb hb2 => ?_⟩
      rw [Below.heap_alloc _ _ _ (by omega), hoth b (by omega)]
    · obtain rfl : k' = k := by omega
      refine ⟨_, by rw [Array.getElem?_setIfInBounds_self_of_lt (by rw [h.size]; exact hk)], ?_⟩
      refine ⟨_, _, rfl, (fun h => by cases h), fun x hx => ?_, ?_⟩
      · obtain rfl := Option.some.inj hx
        simp [hsz, hB]
      · have := Rules.new W (T k') e
        rwa [hsz] at this
  · rw [Array.getElem?_setIfInBounds_ne (by omega)]
    exact h.rest k' (by omega) h2

/-- What tb1CopySet hands back: a table of the same rules in memory of its own. -/
def COut (w : World) (T : Nat → RL) (e : Ending) (w' : World) : Prop := ∃ out, e = .returned (.agg out) ∧ SetIn w.heap.size w' out T ∧ Below w.heap.size w w'

set_option maxHeartbeats 1000000 in
theorem copyset (arr : Array Value) (T : Nat → RL) (w : World) (hS : SetAt w arr T) (hsm : ∀ k, k < 26 → Small (T k)) :
    Calls Try.prog 24 #[.agg arr] w (COut w T) := by
  obtain ⟨i0', hi, hi1, hi2, hi3⟩ := info_parts Try.info43
  have HS : Hid _ := hS
  have HT : Hid _ := hsm
  have q28 := eqnil28
  clear hS hsm
  go_enter Try.func24, Try.ntmps24
  go_wp2
  go_loopw [4] (fun i wr => ∃ (k : Nat) (out : Array Value), k ≤ 26 ∧ i = .int .i64 k ∧ wr.heap[w.heap.size]? = some (.cells arr 29) ∧ wr.heap[w.heap.size + 1]? = some (.cells nil26 29) ∧ Done wr (w.heap.size + 1 + 1) 29 out T k ∧ Below w.heap.size w wr) (fun i _ => 26 - (intOf i).toNat)
  case atStart =>
    refine ⟨0, nil26, by omega, rfl, ?_, ?_, ⟨?_, rfl, fun k' h => by omega, fun k' _ h => nil26_get k' h⟩, ?_⟩
    · rw [Below.heap_alloc _ _ _ (by simp; omega), Below.heap_alloc _ _ _ (by simp)]
      exact heap_alloc_new w _
    · rw [Below.heap_alloc _ _ _ (by simp)]
      exact heap_alloc_at (w.alloc (.cells arr 29)) (.cells nil26 29) (by simp)
    · exact heap_alloc_at ((w.alloc (.cells arr 29)).alloc (.cells nil26 29)) (.cells nil26 29) (by simp)
    · repeat (first | with_reducible exact Below.refl _ _ | with_reducible refine below_new ?_ _)
  case round =>
    obtain ⟨k, out, hk, rfl, b0, b1, hD, hB⟩ := hrel
    have cA : ∀ j, wr.cell? ⟨w.heap.size, j, none⟩ = arr[j]? := fun j => by simp [World.cell?, b0]
    have cO : ∀ j, wr.cell? ⟨w.heap.size + 1 + 1, j, none⟩ = out[j]? := fun j => by simp [World.cell?, hD.block]
    have fO : ∀ j, wr.frozen? ⟨w.heap.size + 1 + 1, j, none⟩ = false := fun j => by simp [World.frozen?, hD.block]
    have s0 : w.heap.size < wr.heap.size := (Array.getElem?_eq_some_iff.1 b0).1
    have s2 : w.heap.size + 1 + 1 < wr.heap.size := (Array.getElem?_eq_some_iff.1 hD.block).1
    have HB0 : Hid _ := b0
    have HB1 : Hid _ := b1
    have HD : Hid _ := hD
    have HB : Hid _ := hB
    clear b0 b1 hD hB
    by_cases hlt : k < 26
    · obtain ⟨a, c, h1, h2, h3⟩ := HS.out.2 k hlt
      have o1 := HD.out.rest k (Nat.le_refl _) hlt
      have hb := (HT.out k hlt).1
      cases a with
      | none =>
        have hz := (h2 rfl).1
        clear h2 h3
        go_wp2
        go_roundw
        case rel => exact ⟨k + 1, out, by omega, by go_num, HB0.out, HB1.out, HD.out.skip hlt hz, HB.out⟩
        case measure => simp [intOf]; omega
      | some x =>
        have HR : Hid (Rules wr (some x) (T k)) := h3.below HB.out
        clear h2 h3
        go_wp2_with (at_make; refine wpList_make_exact _ rfl _ _ 28 rfl 43 i0' _ 2 32 Try.underlying28 hi hi1 hi2 hi3 _ _ _ _ (T k).length rfl rfl rfl rfl (by omega) (by omega) _ (made_pairs (T k) _) ?_)
        go_loopw [6] (fun i wi => ∃ j : Nat, j ≤ (T k).length ∧ i = .int .i64 j ∧ wi = wr.alloc (.cells (fillR (T k) (T k).length j) 43)) (fun i _ => (T k).length - (intOf i).toNat)
        case atStart => exact ⟨0, by omega, rfl, rfl⟩
        case round =>
          obtain ⟨j, hj, rfl, rfl⟩ := hrel
          by_cases hjl : j < (T k).length
          · obtain ⟨b, off, hx, hb', g1, g2⟩ := HR.out j hjl
            obtain rfl := Option.some.inj hx
            obtain ⟨r1, r2⟩ := fillR_get (T k) (T k).length j hjl (by omega)
            have r3 := fillR_step (T k) (T k).length j hjl hjl
            have hjl' : (j : Int) < ((T k).length : Int) := by omega
            clear hx
            go_wp2
            go_roundw
            case rel => exact ⟨j + 1, by omega, by go_num, rfl⟩
            case measure => simp [intOf]; omega
          · obtain rfl : j = (T k).length := by omega
            have hfl := fillR_all (T k)
            go_wp2
            go_roundw
            case rel =>
              have hD' := HD.out.step (e := 43) hlt
              have hb0 := HB0.out
              have hb1 := HB1.out
              refine ⟨k + 1, _, by omega, by go_num, ?_, ?_, hD', ?_⟩
              · rw [Below.heap_alloc _ _ _ (by simp [World.setCell]; omega), Below.heap_setCell _ _ _ _ (by simp; omega)]
                exact hb0
              · rw [Below.heap_alloc _ _ _ (by simp [World.setCell]; omega), Below.heap_setCell _ _ _ _ (by simp)]
                exact hb1
              · exact (HB.out.setCell (by simp; omega) _).alloc (by simp [World.setCell]; omega) _
            case measure => simp [intOf]; omega
    · obtain rfl : k = 26 := by omega
      have hsz : out.size = 26 := HD.out.size
      have hg2 := HD.out.block
      have hg1 := HB1.out
      have i29 : (Try.prog.info? 29).map (·.size) = some out.size := by rw [hsz]; kernel_rfl
      have hone : ∀ v ∈ out.toList, v.oneCell' = true := by
        intro v hv
        obtain ⟨k', hk', he⟩ := List.getElem_of_mem hv
        have hk2 : k' < 26 := by simp at hk'; omega
        obtain ⟨v', g1, g2⟩ := HD.out.done k' hk2
        have e1 : out[k']? = some v := by rw [← he]; simp
        rw [e1] at g1
        obtain rfl := Option.some.inj g1
        obtain ⟨a, c, h1, _⟩ := g2
        rw [h1]
        rfl
      clear cA cO fO
      go_wp2_with (first | (refine wpList_load_row rfl 29 (.tmp 3) rfl (w.heap.size + 1 + 1) rfl 29 out _ _ hg2 Try.underlying29 rfl i29 ?_) | (refine wpList_store_row rfl 29 (.tmp 2) (.tmp 40) rfl (w.heap.size + 1) out rfl rfl nil26 29 hg1 (by rw [hsz]; rfl) i29 hone ?_))
      refine bodyPost_ret (results_cell_row (P := Try.prog) (p := 2) (ty := 29) rfl _ _ (w.heap.size + 1) 29 out (0, 0) _ (by rfl) (setRow_heap wr (w.heap.size + 1) nil26 out 29 _ hg1) Try.underlying29 rfl i29) rfl ?_
      refine ⟨out, rfl, ⟨hsz, fun k' hk' => ?_⟩, below_setRow' HB.out (by omega) out⟩
      obtain ⟨v, g1, g2⟩ := HD.out.done k' hk'
      obtain ⟨a, c, h1, h2, h3, h4⟩ := g2.kept (w' := wr.setRow (w.heap.size + 1) out) (by simp) (fun b hb _ => setRow_other wr (w.heap.size + 1) b out (by omega))
      exact ⟨a, c, by rw [g1, h1], h2, fun x hx => by have := (h3 x hx).1; omega, h4⟩
end Go.Proofs.Qxb6601935a
