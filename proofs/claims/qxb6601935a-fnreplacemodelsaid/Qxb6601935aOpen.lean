/-
  The rule table as an argument, opened.
-/
import Derived.Test.Qxb6601935aRows
import Derived.WalkKit
import Derived.ProofKit
import Derived.OpenShut
import Derived.ShutString
import Derived.ChangeOld
import Derived.Below
import Derived.Test.Qxb6601935aSet
namespace Go.Proofs.Qxb6601935a
open Go.ChangeShapes Go.WideShapes Go.ChangeAt Go.RowKit

theorem Try.cells29 : Try.prog.cellsOf 29 = 26 := by kernel_rfl
theorem Try.cells28 : Try.prog.cellsOf 28 = 1 := by kernel_rfl
theorem Try.cells43 : Try.prog.cellsOf 43 = 2 := by kernel_rfl
theorem Try.cells9 : Try.prog.cellsOf 9 = 1 := by kernel_rfl

theorem list_of {α : Type} (d : α) : ∀ (n : Nat) (Q : Nat → α → Prop), (∀ j, j < n → ∃ p, Q j p) → ∃ l : List α, l.length = n ∧ ∀ j, j < n → Q j (l.getD j d)
  | 0, _, _ => ⟨[], rfl, fun j h => by omega⟩
  | n + 1, Q, h => by
    obtain ⟨l, h1, h2⟩ := list_of d n (fun j p => Q (j + 1) p) (fun j hj => h (j + 1) (by omega))
    obtain ⟨p, hp⟩ := h 0 (by omega)
    refine ⟨p :: l, by simp [h1], fun j hj => ?_⟩
    match j with
    | 0 => simpa using hp
    | j + 1 => simpa using h2 j (by omega)
theorem fun_of {α : Type} (d : α) (n : Nat) (Q : Nat → α → Prop) (h : ∀ j, j < n → ∃ p, Q j p) : ∃ T : Nat → α, ∀ j, j < n → Q j (T j) := by
  obtain ⟨l, _, h2⟩ := list_of d n Q h
  exact ⟨fun j => l.getD j d, h2⟩

theorem okWide_array {P : Program} {w : World} {r : Reach} {base : Nat} {t e : TypeId} {n : Nat} {v : Value} (ht : P.underlying t = some (.array n e)) (h : Value.okWide P w r base t v) : ∃ cs, v = .agg cs ∧ cs.size = P.cellsOf t := by
  cases v <;> simp_all [Value.okWide]

variable {H : Type} {enc : TypeId × Value → H} {W : World}

/-- One letter's rules. -/
theorem open_rules {base fuel : Nat} {v : Value} {x : DataW H × List MemPlace} (h : DataW.trod enc Try.prog W base (fun _ => true) true fuel 28 [v] = some x) :
    ∃ rs : RL, ∃ a c, v = .slice a rs.length c ∧ (a = none → rs.length = 0 ∧ c = 0) ∧ Rules W a rs ∧ rs.length ≤ 9223372036854775807 ∧ ∀ j, j < rs.length → (sufAt rs j).size ≤ 9223372036854775807 ∧ (withAt rs j).size ≤ 9223372036854775807 := by
  rcases DataW.trod_slice Try.underlying28 h with ⟨h1, _⟩ | ⟨a, len, cap, elems, rest, n, _, h1, _, _, hlc, hcm, hel, hcell, _, _⟩
  · simp only [List.cons.injEq, and_true] at h1
    exact ⟨[], none, 0, h1, fun _ => ⟨rfl, rfl⟩, fun j hj => by simp at hj, by simp, fun j hj => by simp at hj⟩
  · simp only [List.cons.injEq, and_true] at h1
    have key : ∀ j, j < len → ∃ p : ByteArray × ByteArray, (W.cell? ((a.add (j * 2)).add 0) = some (.string p.1) ∧ W.cell? ((a.add (j * 2)).add 1) = some (.string p.2)) ∧ p.1.size ≤ maxLen ∧ p.2.size ≤ maxLen := by
      intro j hj
      have hj' := hcell j hj
      rw [Try.cells43] at hj'
      have hsome : ∃ y, elems[j]? = some y := ⟨elems[j]'(by omega), by simp [show j < elems.length by omega]⟩
      obtain ⟨y, hy⟩ := hsome
      rw [hy] at hj'
      obtain ⟨cs, hcs, htr⟩ := Option.bind_eq_some_iff.1 hj'
      obtain ⟨xs, m, _, _, hlen, hxl, hxs⟩ := DataW.trod_array Try.underlying43 htr
      rw [Try.cells43] at hlen
      have hc2 : ∃ c0 c1, W.cell? ((a.add (j * 2)).add 0) = some c0 ∧ W.cell? ((a.add (j * 2)).add 1) = some c1 ∧ cs = [c0, c1] := by
        unfold World.cells? at hcs
        split at hcs
        · simp only [List.range, List.range.loop, List.mapM_cons, List.mapM_nil] at hcs
          cases g0 : W.cell? ((a.add (j * 2)).add 0) with
          | none => simp [g0] at hcs
          | some c0 =>
            cases g1 : W.cell? ((a.add (j * 2)).add 1) with
            | none => simp [g0, g1] at hcs
            | some c1 => exact ⟨c0, c1, rfl, rfl, by simpa [g0, g1] using hcs.symm⟩
        · simp at hcs
      obtain ⟨c0, c1, g0, g1, rfl⟩ := hc2
      have e0 := hxs 0 (by omega)
      have e1 := hxs 1 (by omega)
      rw [Try.cells9] at e0 e1
      have x0 : xs[0]? = some (xs[0]'(by omega)) := by simp [hxl]
      have x1 : xs[1]? = some (xs[1]'(by omega)) := by simp [hxl]
      rw [x0] at e0
      rw [x1] at e1
      obtain ⟨s0, f0, _, z0⟩ := DataW.trod_string Try.underlying9 e0
      obtain ⟨s1, f1, _, z1⟩ := DataW.trod_string Try.underlying9 e1
      simp at f0 f1
      subst f0; subst f1
      exact ⟨(s0, s1), ⟨g0, g1⟩, z0, z1⟩
    obtain ⟨rs, hrl, hrs⟩ := list_of (⟨#[]⟩, ⟨#[]⟩) len _ key
    have hmax : maxLen = 9223372036854775807 := by decide
    refine ⟨rs, some a, cap, by rw [hrl]; exact h1, fun h => (by cases h), ?_, by rw [hrl]; omega, fun j hj => ?_⟩
    · intro j hj
      rw [hrl] at hj
      obtain ⟨⟨g0, g1⟩, _, _⟩ := hrs j hj
      obtain ⟨⟨k0, _⟩, _, _⟩ := hrs 0 (by omega)
      obtain ⟨b, off, spot⟩ := a
      have hspot : spot = none := by simpa [Addr.add] using World.cell?_spot k0
      subst hspot
      rw [Addr.add_lit, Addr.add_lit] at g0 g1
      exact ⟨b, off, rfl, World.block_lt_of_cell? W _ g0, g0, g1⟩
    · rw [hrl] at hj
      obtain ⟨_, z0, z1⟩ := hrs j hj
      exact ⟨by unfold sufAt; omega, by unfold withAt; omega⟩

theorem open_set {base b0 : Nat} {v : Value} {d : DataW H} {p : List MemPlace} (hv : Value.okWide Try.prog W .any b0 29 v) (h : DataW.Trod enc Try.prog W base (fun _ => true) true 29 v d p) :
    ∃ (arr : Array Value) (T : Nat → RL), v = .agg arr ∧ SetAt W arr T ∧ Sane T := by
  obtain ⟨arr, rfl, hsz⟩ := okWide_array Try.underlying29 hv
  rw [Try.cells29] at hsz
  obtain ⟨fuel, hf⟩ := h
  obtain ⟨xs, m, _, _, _, hxl, hxs⟩ := DataW.trod_array Try.underlying29 hf
  have key : ∀ k, k < 26 → ∃ rs : RL, (∃ a c, arr[k]? = some (.slice a rs.length c) ∧ (a = none → rs.length = 0 ∧ c = 0) ∧ Rules W a rs) ∧ rs.length ≤ 9223372036854775807 ∧ ∀ j, j < rs.length → (sufAt rs j).size ≤ 9223372036854775807 ∧ (withAt rs j).size ≤ 9223372036854775807 := by
    intro k hk
    have e := hxs k hk
    have hk' : k < arr.size := by omega
    have el : ((Value.agg arr).cells.toList.drop (k * Try.prog.cellsOf 28)).take (Try.prog.cellsOf 28) = [arr[k]] := by
      rw [Try.cells28, Nat.mul_one]
      simp [Value.cells, List.take_one, hk']
    have x0 : xs[k]? = some (xs[k]'(by omega)) := by simp [hxl, hk]
    rw [el, x0] at e
    obtain ⟨rs, a, c, h1, h2, h3, h4, h5⟩ := open_rules e
    exact ⟨rs, ⟨a, c, by rw [← h1]; simp [hk'], h2, h3⟩, h4, h5⟩
  obtain ⟨T, hT⟩ := fun_of [] 26 _ key
  exact ⟨arr, T, rfl, ⟨hsz, fun k hk => (hT k hk).1⟩, fun k hk => (hT k hk).2⟩
end Go.Proofs.Qxb6601935a
