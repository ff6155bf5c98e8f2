/-
  The two struct arguments of this seat, opened: ChunkState (eight cells, one of them a slice of bytes) and MsgHeader (four).
-/
import Derived.Test.Qxb6601910aRows
import Derived.WalkKit
import Derived.ProofKit
import Derived.OpenShut
import Derived.ShutString
import Derived.ChangeOld
import Derived.Below
import Derived.Lib.SmallJoins
import Derived.Test.Qxb6601910aKit
namespace Go.Proofs.Qxb6601910a
open Go.ChangeShapes Go.WideShapes Go.ChangeAt Go.RowKit Go.Joins

/-- A slice of bytes that came in. -/
def IsRow8 (w : World) (a : Option Addr) (len cap : Nat) (zs : List Int) : Prop :=
  (a = none ∧ len = 0 ∧ cap = 0 ∧ zs = []) ∨
  ∃ x, a = some x ∧ len ≤ cap ∧ cap ≤ maxLen ∧ zs.length = cap ∧ (∀ i, i < zs.length → w.cell? (x.add i) = some (.int .u8 (zs.getD i 0))) ∧ ∀ n ∈ zs, (Lit.int .u8 n).wf = true

theorem Try.cells35 : Try.prog.cellsOf 35 = 8 := by kernel_rfl
theorem Try.cells37 : Try.prog.cellsOf 37 = 4 := by kernel_rfl
theorem Try.cells24 : Try.prog.cellsOf 24 = 1 := by kernel_rfl
theorem Try.cells4 : Try.prog.cellsOf 4 = 1 := by kernel_rfl
theorem Try.cells22 : Try.prog.cellsOf 22 = 1 := by kernel_rfl
theorem Try.cells3 : Try.prog.cellsOf 3 = 1 := by kernel_rfl
theorem Try.cells5 : Try.prog.cellsOf 5 = 1 := by kernel_rfl

theorem array8 {α : Type} {cs : Array α} (h : cs.size = 8) : ∃ c0 c1 c2 c3 c4 c5 c6 c7, cs = #[c0, c1, c2, c3, c4, c5, c6, c7] := by
  obtain ⟨l⟩ := cs
  match l, h with
  | [c0, c1, c2, c3, c4, c5, c6, c7], _ => exact ⟨c0, c1, c2, c3, c4, c5, c6, c7, rfl⟩

variable {H : Type} {enc : TypeId × Value → H} {W : World}

theorem open_state {base b0 : Nat} {v : Value} {d : DataW H} {p : List MemPlace} (hv : Value.okWide Try.prog W .any b0 35 v) (h : DataW.Trod enc Try.prog W base (fun _ => true) true 35 v d p) :
    ∃ (ts dl len typ sid : Int) (x : Bool) (a : Option Addr) (n c : Nat) (room : Int) (zs : List Int),
      v = .agg #[.int .u32 ts, .int .u32 dl, .int .u32 len, .int .u8 typ, .int .u32 sid, .bool x, .slice a n c, .int .i64 room] ∧ IsRow8 W a n c zs ∧ (0 ≤ ts ∧ ts ≤ 4294967295) ∧ (0 ≤ dl ∧ dl ≤ 4294967295) := by
  obtain ⟨cs, rfl, hsz⟩ := okWide_struct Try.underlying35 hv
  obtain ⟨c0, c1, c2, c3, c4, c5, c6, c7, rfl⟩ := array8 (hsz.trans Try.cells35)
  obtain ⟨fuel, hf⟩ := h
  obtain ⟨xs, n, _, _, _, hlen, hfs⟩ := DataW.trod_struct Try.underlying35 hf
  replace hlen : xs.length = 8 := hlen
  have e0 : DataW.trod enc Try.prog W base (fun _ => true) true n 24 [c0] = some xs[0] := by
    have := hfs 0 _ rfl
    simpa [Value.cells, Try.cells24, hlen] using this
  have e1 : DataW.trod enc Try.prog W base (fun _ => true) true n 24 [c1] = some xs[1] := by
    have := hfs 1 _ rfl
    simpa [Value.cells, Try.cells24, hlen] using this
  have e2 : DataW.trod enc Try.prog W base (fun _ => true) true n 24 [c2] = some xs[2] := by
    have := hfs 2 _ rfl
    simpa [Value.cells, Try.cells24, hlen] using this
  have e3 : DataW.trod enc Try.prog W base (fun _ => true) true n 5 [c3] = some xs[3] := by
    have := hfs 3 _ rfl
    simpa [Value.cells, Try.cells5, hlen] using this
  have e4 : DataW.trod enc Try.prog W base (fun _ => true) true n 24 [c4] = some xs[4] := by
    have := hfs 4 _ rfl
    simpa [Value.cells, Try.cells24, hlen] using this
  have e5 : DataW.trod enc Try.prog W base (fun _ => true) true n 4 [c5] = some xs[5] := by
    have := hfs 5 _ rfl
    simpa [Value.cells, Try.cells4, hlen] using this
  have e6 : DataW.trod enc Try.prog W base (fun _ => true) true n 22 [c6] = some xs[6] := by
    have := hfs 6 _ rfl
    simpa [Value.cells, Try.cells22, hlen] using this
  have e7 : DataW.trod enc Try.prog W base (fun _ => true) true n 3 [c7] = some xs[7] := by
    have := hfs 7 _ rfl
    simpa [Value.cells, Try.cells3, hlen] using this
  obtain ⟨x0, f0, _, g0⟩ := DataW.trod_int Try.underlying24 e0
  obtain ⟨x1, f1, _, g1⟩ := DataW.trod_int Try.underlying24 e1
  obtain ⟨x2, f2, _, g2⟩ := DataW.trod_int Try.underlying24 e2
  obtain ⟨x3, f3, _, g3⟩ := DataW.trod_int Try.underlying5 e3
  obtain ⟨x4, f4, _, g4⟩ := DataW.trod_int Try.underlying24 e4
  obtain ⟨x5, f5, _⟩ := DataW.trod_bool Try.underlying4 e5
  obtain ⟨a, l, c, f6⟩ := slice_form Try.underlying22 e6
  obtain ⟨x7, f7, _, g7⟩ := DataW.trod_int Try.underlying3 e7
  simp only [List.cons.injEq, and_true] at f0
  subst f0
  simp only [List.cons.injEq, and_true] at f1
  subst f1
  simp only [List.cons.injEq, and_true] at f2
  subst f2
  simp only [List.cons.injEq, and_true] at f3
  subst f3
  simp only [List.cons.injEq, and_true] at f4
  subst f4
  simp only [List.cons.injEq, and_true] at f5
  subst f5
  simp only [List.cons.injEq, and_true] at f6
  subst f6
  simp only [List.cons.injEq, and_true] at f7
  subst f7
  obtain ⟨zs, hz⟩ : ∃ zs, IsRow8 W a l c zs := by
    rcases open_ints Try.underlying22 Try.underlying5 Try.cells5 e6 with ⟨hcs, _⟩ | ⟨x, l', c', zs, hcs, _, hl, hm, hz, _, hcell, hwz⟩
    · simp at hcs
      obtain ⟨rfl, rfl, rfl⟩ := hcs
      exact ⟨[], .inl ⟨rfl, rfl, rfl, rfl⟩⟩
    · simp at hcs
      obtain ⟨rfl, rfl, rfl⟩ := hcs
      exact ⟨zs, .inr ⟨_, rfl, hl, hm, by simpa using hz, hcell, hwz⟩⟩
  exact ⟨x0, x1, x2, x3, x4, x5, a, l, c, x7, zs, rfl, hz, bounds_u32 g0, bounds_u32 g1⟩

theorem open_head {base b0 : Nat} {v : Value} {d : DataW H} {p : List MemPlace} (hv : Value.okWide Try.prog W .any b0 37 v) (h : DataW.Trod enc Try.prog W base (fun _ => true) true 37 v d p) :
    ∃ hf hl ht hs : Int, v = .agg #[.int .u32 hf, .int .u32 hl, .int .u8 ht, .int .u32 hs] ∧ (0 ≤ hf ∧ hf ≤ 4294967295) := by
  obtain ⟨cs, rfl, hsz⟩ := okWide_struct Try.underlying37 hv
  obtain ⟨c0, c1, c2, c3, rfl⟩ := array4 (hsz.trans Try.cells37)
  obtain ⟨fuel, hf⟩ := h
  obtain ⟨xs, n, _, _, _, hlen, hfs⟩ := DataW.trod_struct Try.underlying37 hf
  replace hlen : xs.length = 4 := hlen
  have e0 : DataW.trod enc Try.prog W base (fun _ => true) true n 24 [c0] = some xs[0] := by
    have := hfs 0 _ rfl
    simpa [Value.cells, Try.cells24, hlen] using this
  have e1 : DataW.trod enc Try.prog W base (fun _ => true) true n 24 [c1] = some xs[1] := by
    have := hfs 1 _ rfl
    simpa [Value.cells, Try.cells24, hlen] using this
  have e2 : DataW.trod enc Try.prog W base (fun _ => true) true n 5 [c2] = some xs[2] := by
    have := hfs 2 _ rfl
    simpa [Value.cells, Try.cells5, hlen] using this
  have e3 : DataW.trod enc Try.prog W base (fun _ => true) true n 24 [c3] = some xs[3] := by
    have := hfs 3 _ rfl
    simpa [Value.cells, Try.cells24, hlen] using this
  obtain ⟨x0, f0, _, g0⟩ := DataW.trod_int Try.underlying24 e0
  obtain ⟨x1, f1, _, g1⟩ := DataW.trod_int Try.underlying24 e1
  obtain ⟨x2, f2, _, g2⟩ := DataW.trod_int Try.underlying5 e2
  obtain ⟨x3, f3, _, g3⟩ := DataW.trod_int Try.underlying24 e3
  simp only [List.cons.injEq, and_true] at f0
  subst f0
  simp only [List.cons.injEq, and_true] at f1
  subst f1
  simp only [List.cons.injEq, and_true] at f2
  subst f2
  simp only [List.cons.injEq, and_true] at f3
  subst f3
  exact ⟨x0, x1, x2, x3, rfl, bounds_u32 g0⟩
end Go.Proofs.Qxb6601910a
