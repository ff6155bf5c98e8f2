/-
  'Rows.FnSetHeaderTimestampMovesByDeltaSaid': the frame, after the seat's shells; the walk lies in Qxb6601910aMoves.
-/
import Derived.Test.Qxb6601910aOpen
import Derived.Test.Qxb6601910aMoves
namespace Go.Proofs.Qxb6601910a.fnSetHeaderTimestampMovesByDelta
open Go.ChangeShapes Go.WideShapes Go.ChangeAt Go.RowKit
set_option linter.unusedVariables false

theorem own : ownKnob Try.prog.godebug = none := by kernel_rfl
theorem laidOut : laidOutB Try.prog = true := by kernel_rfl

theorem of_row {w : World} {a : Option Addr} {len cap : Nat} {zs : List Int} (h : IsRow8 w a len cap zs) : len ≤ 9223372036854775807 ∧ (a = none → len = 0 ∧ cap = 0) ∧ ∃ ys : List Int, ys.length = len ∧
    ∀ j, j < len → ∃ b off, a = some ⟨b, off, none⟩ ∧ b < w.heap.size ∧ w.cell? ⟨b, off + j, none⟩ = some (.int .u8 (ys.getD j 0)) := by
  rcases h with ⟨rfl, rfl, rfl, rfl⟩ | ⟨x, rfl, h1, h2, h3, hc, hw⟩
  · exact ⟨by omega, fun _ => ⟨rfl, rfl⟩, [], rfl, fun j hj => by omega⟩
  · unfold maxLen at h2
    refine ⟨by omega, fun h => by simp at h, ?_⟩
    by_cases h0 : len = 0
    · subst h0
      exact ⟨[], rfl, fun j hj => by omega⟩
    obtain ⟨b, off, rfl, hb, hl, hz, _⟩ := row_plain (len := len) (by omega) (by omega) hc hw
    exact ⟨zs.take len, hl, fun j hj => ⟨b, off, rfl, hb, hz j hj⟩⟩

theorem walk (ts d len typ sid : Int) (x : Bool) (a : Option Addr) (n c : Nat) (room : Int) (zs : List Int) (f : Int) (hf hl ht hs : Int) (hx : Bool) (w : World)
    (w0 : IsRow8 w a n c zs) (t : 0 ≤ ts ∧ ts ≤ 4294967295) (hd : 0 ≤ d ∧ d ≤ 4294967295) (hh : 0 ≤ hf ∧ hf ≤ 4294967295) (wf : (Lit.int .u8 f).wf = true) :
    Calls Try.prog 6 #[.agg #[.int .u32 ts, .int .u32 d, .int .u32 len, .int .u8 typ, .int .u32 sid, .bool x, .slice a n c, .int .i64 room], .int .u8 f, .agg #[.int .u32 hf, .int .u32 hl, .int .u8 ht, .int .u32 hs], .bool hx] w fun e w' =>
      e = .returned (.bool true) ∧ Below w.heap.size w w' := by
  have bf := bounds_u8 wf
  obtain ⟨m0, n0, y0, l0, z0⟩ := of_row w0
  by_cases h : 1048576 < n
  · exact moves_long _ _ _ _ _ _ _ _ _ _ _ _ _ _ _ _ h m0 w
  by_cases h3 : 3 < f
  · exact moves_out _ _ _ _ _ _ _ _ _ _ _ _ _ _ _ _ (by omega) h3 w
  by_cases e0 : f = 0
  · subst e0
    exact moves_0 ts d len typ sid x a n c room hf hl ht hs hx (by omega) w t.1 t.2 hd.1 hd.2 hh.1 hh.2 y0 n0 l0 z0
  by_cases e1 : f = 1
  · subst e1
    exact moves_1 ts d len typ sid x a n c room hf hl ht hs hx (by omega) w t.1 t.2 hd.1 hd.2 hh.1 hh.2 y0 n0 l0 z0
  by_cases e2 : f = 2
  · subst e2
    exact moves_2 ts d len typ sid x a n c room hf hl ht hs hx (by omega) w t.1 t.2 hd.1 hd.2 hh.1 hh.2 y0 n0 l0 z0
  obtain rfl : f = 3 := by omega
  by_cases e3 : n = 0
  · subst e3
    exact moves_3n ts d len typ sid x a c room hf hl ht hs hx w t.1 t.2 hd.1 hd.2 hh.1 hh.2 y0 (fun h => (n0 h).2) l0 z0
  · exact moves_3a ts d len typ sid x a n c room hf hl ht hs hx (by omega) w t.1 t.2 hd.1 hd.2 hh.1 hh.2 (by omega) y0 n0 l0 z0

set_option maxRecDepth 100000 in
theorem lifted (os : Os) (started : os.Started) (H : Type) (enc : TypeId × Value → H) :
    ReturnsInHanded {} Try.checked os 6 .any (Rows.fnSetHeaderTimestampMovesByDeltaSpec.pre6 enc Try.prog Try.f6 Rows.fnSetHeaderTimestampMovesByDeltaRow.domain false) (Rows.fnSetHeaderTimestampMovesByDeltaSpec.post enc Try.prog Try.f6 false true false false) := by
  refine returnsInHanded_of_change (C := Try.checked) own started (by kernel_rfl) Try.func6
    (ChangeSpec.witness6 (enc := enc) (C := Try.checked) false ⟨#[], #[.agg #[.int .u32 0, .int .u32 0, .int .u32 0, .int .u8 0, .int .u32 0, .bool false, .slice none 0 0, .int .i64 0], .int .u8 0, .agg #[.int .u32 0, .int .u32 0, .int .u8 0, .int .u32 0], .bool false], []⟩ 8 (by kernel_rfl) (by kernel_rfl) (by kernel_rfl) (by kernel_rfl)) ?_
  intro W base args ds gs before hval0 hW hcnd _
  have hval : ∀ (j : Nat) t v, Try.f6.params[j]? = some t → args[j]? = some v → Value.okWide Try.prog W .any base t v := hval0
  have hW' := hW
  obtain ⟨p, q, hA0, hV, rfl, hfz, hnd⟩ := hW
  have hA : DataW.TrodAll enc Try.prog W 0 (fun _ => true) true Try.f6.params.toList args.toList ds p := hA0
  rw [Try.params6] at hA hval
  obtain ⟨v0, vs0, d0, ds0, p0, q0, hargs, rfl, rfl, h0, r0⟩ := trodAll_cons hA
  obtain ⟨v1, vs1, d1, ds1, p1, q1, rfl, rfl, rfl, h1, r1⟩ := trodAll_cons r0
  obtain ⟨v2, vs2, d2, ds2, p2, q2, rfl, rfl, rfl, h2, r2⟩ := trodAll_cons r1
  obtain ⟨v3, vs3, d3, ds3, p3, q3, rfl, rfl, rfl, h3, r3⟩ := trodAll_cons r2
  obtain ⟨rfl, rfl, rfl⟩ := trodAll_nil r3
  obtain rfl : args = #[v0, v1, v2, v3] := by cases args; simp_all
  obtain ⟨rfl, rfl⟩ := trodVars_none hV
  have k0 := h0
  have k2 := h2
  have lt0 : ∀ x ∈ p0, x.block < W.heap.size := by obtain ⟨m, hm⟩ := k0; exact DataW.trod_lt m _ _ _ hm
  have lt2 : ∀ x ∈ p2, x.block < W.heap.size := by obtain ⟨m, hm⟩ := k2; exact DataW.trod_lt m _ _ _ hm
  obtain ⟨ts, dl, len, typ, sid, x, a, n, c, room, zs, rfl, z0, b0, b1⟩ := open_state (hval 0 35 v0 rfl rfl) h0
  obtain ⟨f, rfl, rfl, rfl, w1⟩ := open_int Try.underlying5 (hval 1 5 v1 rfl rfl) h1
  obtain ⟨hf, hl, ht, hs, rfl, b2⟩ := open_head (hval 2 37 v2 rfl rfl) h2
  obtain ⟨hx, rfl, rfl, rfl⟩ := open_bool Try.underlying4 (hval 3 4 v3 rfl rfl) h3
  clear hA0 hval0
  refine (walk ts dl len typ sid x a n c room zs f hf hl ht hs hx W z0 b0 b1 b2 w1).mono fun e W' ⟨he, bel⟩ => ?_
  subst he
  exact ⟨_, rfl, _, _, _, [], _, [], hW', trodAll_mk1 (shut_bool Try.underlying4 _), (trodAll_cons_mk (Below.trod laidOut (by kernel_rfl) (of_decide_eq_true (by kernel_rfl)) k0 bel lt0) (trodAll_cons_mk (shut_int Try.underlying5 w1) (trodAll_cons_mk (Below.trod laidOut (by kernel_rfl) (of_decide_eq_true (by kernel_rfl)) k2 bel lt2) (trodAll_cons_mk (shut_bool Try.underlying4 _) trodAll_mk0)))), rfl, bel.frame _, fun h => by cases h⟩

theorem over : Rows.fnSetHeaderTimestampMovesByDeltaRow.holds Try.pinned (OpenSpec.ofChange Rows.fnSetHeaderTimestampMovesByDeltaSpec) :=
  OpenClaim.holds_of_wide 6 Try.f6 rfl rfl rfl rfl rfl rfl rfl ⟨rfl, rfl, rfl, rfl, rfl⟩ rfl rfl rfl rfl rfl (by kernel_rfl) Try.func6 (by kernel_rfl)
    (of_decide_eq_true (by kernel_rfl)) (by unfold Func.isWrapper; first | (rw [if_pos (by decide +kernel)]; kernel_rfl) | (rw [if_neg (by decide +kernel)]; exact ⟨rfl, rfl⟩))
    (fun os started H enc _ => lifted os started H enc)

/-- THE STATEMENT -/
theorem proved : Rows.FnSetHeaderTimestampMovesByDeltaSaid := over
#print axioms proved
end Go.Proofs.Qxb6601910a.fnSetHeaderTimestampMovesByDelta
