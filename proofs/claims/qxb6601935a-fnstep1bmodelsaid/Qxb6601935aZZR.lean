/-
  The walk of ZZReplace.
-/
import Derived.Test.Qxb6601935aRepl
namespace Go.Proofs.Qxb6601935a
open Go.RowKit
set_option linter.unusedVariables false

theorem But.lift {g : Nat} {w w1 w2 : World} (h : Below w.heap.size w w1) (k : But g w1 w2) : But g w w2 := (But.of_below h).trans k
theorem below_lift {w w1 w2 : World} (h : Below w.heap.size w w1) (k : Below w1.heap.size w1 w2) : Below w.heap.size w w2 := h.trans (k.mono h.size)

theorem AppOut.lift {w w1 w2 : World} {g n m : Nat} {zs t : List Int} {e : Ending} (h : Below w.heap.size w w1) (k : AppOut w1 g n m zs t e w2) : AppOut w g n m zs t e w2 := by
  refine ⟨fun hf => ?_, fun hf => ?_⟩
  · obtain ⟨a, b, c⟩ := k.1 hf
    exact ⟨a, b, But.lift h c⟩
  · obtain ⟨x, c, a, b, d⟩ := k.2 hf
    exact ⟨x, c, a, b, below_lift h d⟩
theorem RepOut.lift {w w1 w2 : World} {g n : Nat} {zs : List Int} {rs : RL} {least : Int} {e : Ending} (h : Below w.heap.size w w1) (k : RepOut w1 g n zs rs least e w2) : RepOut w g n zs rs least e w2 :=
  ⟨fun hf => ⟨(k.1 hf).1, below_lift h (k.1 hf).2⟩, fun h1 h2 => (k.2 h1 h2).lift h⟩
/-- Whatever it comes to, it hands back a slice. -/
theorem RepOut.slice {w w2 : World} {g n : Nat} {zs : List Int} {rs : RL} {least : Int} {e : Ending} (k : RepOut w g n zs rs least e w2) : ∃ a l c, e = .returned (.slice a l c) := by
  by_cases h1 : pickTo zs rs rs.length < 0 ∨ (meas (zs.take (n - (sufAt rs (pickTo zs rs rs.length).toNat).size)) : Int) ≤ least
  · exact ⟨_, _, _, (k.1 h1).1⟩
  · have := k.2 (by omega) (by omega)
    by_cases h2 : n - (sufAt rs (pickTo zs rs rs.length).toNat).size + (sb (withAt rs (pickTo zs rs rs.length).toNat)).length ≤ n
    · exact ⟨_, _, _, (this.1 h2).1⟩
    · obtain ⟨x, c, h, _⟩ := this.2 (by omega)
      exact ⟨_, _, _, h⟩

set_option maxHeartbeats 400000 in
theorem zzrepl (g n : Nat) (zs : List Int) (hl : zs.length = n) (hn : n ≤ 4096) (h1 : 1 ≤ n) (hr : ∀ j, 0 ≤ nth zs j ∧ nth zs j ≤ 255) (hlo : 97 ≤ nth zs (n - 1)) (hhi : nth zs (n - 1) ≤ 122)
    (arr : Array Value) (T : Nat → RL) (least : Int) (w : World) (hg : w.heap[g]? = some (.cells (bs zs) 5)) (hS : SetAt w arr T) (hsm : ∀ k, k < 26 → Small (T k)) :
    Calls Try.prog 25 #[.slice (some ⟨g, 0, none⟩) n n, .agg arr, .int .i64 least] w (RepOut w g n zs (T (nth zs (n - 1) - 97).toNat) least) := by
  have hb0 := heap_alloc_new w (.cells arr 29)
  have hw0 : Below w.heap.size w (w.alloc (.cells arr 29)) := below_new (Below.refl _ _) _
  have hrs := ruleset arr T (w.alloc (.cells arr 29)) (hS.below hw0) hsm
  have i29 : (Try.prog.info? 29).map (·.size) = some arr.size := by rw [hS.1]; kernel_rfl
  have hgl : g < w.heap.size := (Array.getElem?_eq_some_iff.1 hg).1
  have HRP : Hid (∀ (B : Nat) (out : Array Value) (w1 : World), Below w.heap.size w w1 → w1.heap[B]? = some (.cells out 56) → SetAt w1 out T →
      Calls Try.prog 36 #[.slice (some ⟨g, 0, none⟩) n n, .pointer (some ⟨B, 0, none⟩), .int .i64 least] w1 (RepOut w1 g n zs (T (nth zs (n - 1) - 97).toNat) least)) := by
    intro B out w1 hb hB hS1
    exact repl_any g n B zs hl hn h1 hr hlo hhi out T least w1 (by rw [hb.block g hgl]; exact hg) hB hS1 hsm
  have HRS : Hid _ := hrs
  have HW0 : Hid _ := hw0
  clear hrs hS hsm hg hr hlo hhi hw0
  go_enter Try.func25, Try.ntmps25
  go_wp2_with (refine wpList_load_row rfl 29 (.tmp 4) rfl w.heap.size rfl 29 arr (0, 0) _ hb0 Try.underlying29 rfl i29 ?_)
  refine Calls.mono HRS.out ?_
  rintro e w1 ⟨B, out, rfl, hB, hS1, _, hbw⟩
  have HB : Hid _ := hB
  have HS1 : Hid _ := hS1
  have HBW : Hid _ := hbw
  clear hB hS1 hbw hb0
  go_wp2_with fail
  have hbel := below_lift HW0.out HBW.out
  refine Calls.mono (HRP.out B out w1 hbel HB.out HS1.out) ?_
  intro e w2 hout
  obtain ⟨a, l, c, rfl⟩ := hout.slice
  have HO : Hid _ := hout.lift hbel
  clear hout hbel
  go_wp2_with fail
  go_ret
  exact HO.out
end Go.Proofs.Qxb6601935a
