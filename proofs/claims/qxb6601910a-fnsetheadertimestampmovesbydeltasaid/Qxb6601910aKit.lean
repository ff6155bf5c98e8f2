/-
  Small laws of this seat, of whatever program: a row of bytes that the call itself makes; 'make([]byte, n)' and 'copy' with the world written out.
-/
import Derived.WalkKit
import Derived.WalkSpells
import Derived.WalkLawsBesides
import Derived.Laws.CopyOwn
import Derived.OpenShut
namespace Go.Proofs.Qxb6601910a
open Go.RowKit

/-- The cells of a row of bytes. -/
def bs (zs : List Int) : Array Value := (zs.map (Value.int .u8)).toArray
/-- So many zero bytes. -/
def zeros (n : Nat) : List Int := List.replicate n 0
/-- n bytes: the first k are those of zs, the others zero. -/
def fillTo (zs : List Int) (n k : Nat) : List Int := zs.take k ++ List.replicate (n - k) 0

theorem bs_size (zs : List Int) : (bs zs).size = zs.length := by simp [bs]
theorem bs_get (zs : List Int) (i : Nat) (h : i < zs.length) : (bs zs)[i]? = some (.int .u8 (zs.getD i 0)) := by simp [bs, h, List.getD]
theorem bs_set (zs : List Int) (i : Nat) (v : Int) : (bs zs).setIfInBounds i (.int .u8 v) = bs (zs.set i v) := by
  apply Array.ext'
  simp [bs]
theorem length_zeros (n : Nat) : (zeros n).length = n := by simp [zeros]
theorem length_fillTo (zs : List Int) (n k : Nat) (hk : k ≤ n) (hz : k ≤ zs.length) : (fillTo zs n k).length = n := by simp [fillTo]; omega
theorem fillTo_zero (zs : List Int) (n : Nat) : fillTo zs n 0 = zeros n := by simp [fillTo, zeros]
theorem fillTo_all (zs : List Int) (n : Nat) (h : zs.length = n) : fillTo zs n n = zs := by simp [fillTo, ← h]
theorem fillTo_step (zs : List Int) (n k : Nat) (hk : k < n) (hz : k < zs.length) : (fillTo zs n k).set k (zs.getD k 0) = fillTo zs n (k + 1) := by
  apply List.ext_getElem?
  intro j
  simp only [fillTo, List.getElem?_set, List.getElem?_append, List.length_take, List.getElem?_take, List.getElem?_replicate, List.length_append, List.length_replicate]
  have h1 : min k zs.length = k := by omega
  have h2 : min (k + 1) zs.length = k + 1 := by omega
  rw [h1, h2]
  by_cases hj : k = j
  · subst hj
    have e : k < k + (n - k) := by omega
    simp [e, List.getD, hz]
  · rw [if_neg hj]
    by_cases hl : j < k
    · simp [hl, show j < k + 1 by omega]
    · simp [hl, show ¬ j < k + 1 by omega]
      have : (j - k < n - k) ↔ (j - (k + 1) < n - (k + 1)) := by omega
      simp [this]

theorem made_bytes (n : Nat) : madeCells (Value.int IntKind.u8 0).cells (n * 1) = bs (zeros n) := by
  apply Array.ext'
  have := toList_madeCells_one (Value.int .u8 0) (n * 1)
  simp only [Value.cells] at this ⊢
  rw [this]
  simp [bs, zeros]

/-- 'make([]byte, n)': the world written out. -/
theorem wpList_make_bytes {P : Program} (w : World) {ops : Array Oper} {rest : List Oper} {o : Oper} {a : Act} {Q : Exit → Act → World → Prop}
    (hg : o.guard = none) (l c : Operand) (t : TypeId) (hop : o.op = Op.makeSlice t l c)
    (e : TypeId) (i : TypeInfo) (h1 : P.underlying t = some (.slice e)) (h2 : P.info? e = some i) (h3 : i.zero = some (.int .u8 0)) (h4 : i.size = 1) (h5 : i.bytes = 1)
    (kl kc : IntKind) (L C : Int) (n : Nat) (hl : a.eval l = .int kl L) (hc : a.eval c = .int kc C) (hL : L = (n : Int)) (hC : C = (n : Int)) (b2 : n ≤ 281474976710656)
    (hK : wpList P ops Q rest (a.put o.dst (.slice (some ⟨w.heap.size, 0, none⟩) n n)) (w.alloc (.cells (bs (zeros n)) e))) :
    wpList P ops Q (o :: rest) a w := by
  refine wpList_plain hg fun K hK' => ?_
  have hrun := run_make (P := P) w t e i (.int .u8 0) h1 h2 h3 kl kc (n : Int) (n : Int) (by omega) (Int.le_refl _) (by rw [h5]; omega) (by omega)
  rw [Int.toNat_natCast, h4, made_bytes] at hrun
  subst hL
  subst hC
  unfold Oper.wp
  simp [execOp, hop, hl, hc, hrun, Result.andThen]
  exact hK' _ _ hK

theorem setRow_new (w : World) (c d : Array Value) (t : TypeId) : (w.alloc (.cells c t)).setRow w.heap.size d = w.alloc (.cells d t) := by
  unfold World.setRow World.alloc
  congr 1
  apply Array.ext_getElem?
  intro k
  simp only [Array.getElem?_modify, Array.getElem?_push]
  by_cases hk : k = w.heap.size
  · subst hk; simp
  · simp [hk, Ne.symm hk]

/-- 'copy(dst, src)', dst the row that has just been made, src as long: its run. -/
theorem run_copy_bytes {P : Program} (w : World) (dT sT ty elem : TypeId) (hu : P.underlying dT = some (.slice elem)) (hsz : (P.info? elem).map (·.size) = some 1)
    (n c : Nat) (b off : Nat) (old zs : List Int) (hlen : zs.length = n) (hold : old.length = n) (hb : b < w.heap.size)
    (hsrc : ∀ j, j < n → w.cell? ⟨b, off + j, none⟩ = some (.int .u8 (zs.getD j 0))) :
    (Builtin.copy_ #[dT, sT] ty #[.slice (some ⟨w.heap.size, 0, none⟩) n n, .slice (some ⟨b, off, none⟩) n c]).run P (w.alloc (.cells (bs old) elem)) = .ok (goInt n) (w.alloc (.cells (bs zs) elem)) := by
  have h := run_copy_row P (w.alloc (.cells (bs old) elem)) dT sT ty elem w.heap.size 0 n n ⟨b, off, none⟩ n c (bs old) elem (zs.map (Value.int .u8)) hu hsz (heap_alloc_new w _) (by simp [hlen]) ?_ (by simp [bs_size, hlen, hold]) (ints_oneCell _ _)
  · rw [h]
    have e : ((bs old).toList.take 0 ++ zs.map (Value.int .u8) ++ (bs old).toList.drop (0 + (zs.map (Value.int .u8)).length)).toArray = bs zs := by
      apply Array.ext'
      simp [bs, hlen, hold]
    rw [e, setRow_new]
    simp [hlen]
  · intro j v hv
    have hj : j < n := by have := (List.getElem?_eq_some_iff.1 hv).1; simpa [hlen] using this
    rw [Addr.add_lit, World.cell?_alloc_past _ _ _ hb, hsrc j hj, ← hv]
    simp [List.getD, hlen, hj]

/-- A new block, over a world that keeps what was there. -/
theorem below_new {w w' : World} (h : Below w.heap.size w w') (o : Obj) : Below w.heap.size w (w'.alloc o) := h.alloc h.size o

/-- A slice that came in and is not empty: where its cells lie. -/
theorem row_plain {w : World} {x : Addr} {len : Nat} {zs : List Int} (h1 : 0 < len) (hl : len ≤ zs.length) (hc : ∀ i, i < zs.length → w.cell? (x.add i) = some (.int .u8 (zs.getD i 0))) (hw : ∀ n ∈ zs, (Lit.int .u8 n).wf = true) :
    ∃ b off, x = ⟨b, off, none⟩ ∧ b < w.heap.size ∧ (zs.take len).length = len ∧ (∀ j, j < len → w.cell? ⟨b, off + j, none⟩ = some (.int .u8 ((zs.take len).getD j 0))) ∧ ∀ j, 0 ≤ (zs.take len).getD j 0 ∧ (zs.take len).getD j 0 ≤ 255 := by
  obtain ⟨b, off, spot⟩ := x
  have h0 := hc 0 (by omega)
  have hspot : spot = none := by simpa [Addr.add] using World.cell?_spot h0
  subst hspot
  refine ⟨b, off, rfl, ?_, by simp; omega, ?_, ?_⟩
  · rw [Addr.add_lit] at h0
    exact World.block_lt_of_cell? w _ h0
  · intro j hj
    have := hc j (by omega)
    rw [Addr.add_lit] at this
    rw [this]
    simp [List.getD, hj]
  · intro j
    by_cases hj : j < len ∧ j < zs.length
    · have hm := hw zs[j] (List.getElem_mem hj.2)
      have e : (zs.take len).getD j 0 = zs[j] := by simp [List.getD, hj.1, hj.2]
      rw [e]
      exact bounds_u8 hm
    · have e : (zs.take len).getD j 0 = 0 := by
        rw [List.getD, List.getElem?_eq_none (by simp; omega)]
        rfl
      rw [e]
      omega

/-! Draws stand outermost. -/
theorem setCell_drewN (w : World) (n : Nat) (a : Addr) (v : Value) : (w.drewN n).setCell a v = (w.setCell a v).drewN n := rfl
theorem alloc_drewN (w : World) (n : Nat) (o : Obj) : (w.drewN n).alloc o = (w.alloc o).drewN n := rfl
end Go.Proofs.Qxb6601910a
