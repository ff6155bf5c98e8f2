/-
  Small laws of this seat, of whatever program: a row of bytes that the call itself makes; 'make([]byte, n)' with the world written out.
-/
import Derived.WalkKit
import Derived.WalkSpells
import Derived.WalkLawsBesides
import Derived.OpenShut
namespace Go.Proofs.Qxb6601935a
open Go.RowKit

/-- The j-th number. (A plain definition, so that the walk's simp leaves it standing.) -/
def nth (l : List Int) (j : Nat) : Int := l.getD j 0
theorem nth_eq (l : List Int) (j : Nat) (h : j < l.length) : nth l j = l[j] := by simp [nth, List.getD, h]
theorem nth_take (l : List Int) (k j : Nat) (h : j < k) : nth (l.take k) j = nth l j := by simp [nth, List.getD, h]
theorem nth_append_left (l m : List Int) (j : Nat) (h : j < l.length) : nth (l ++ m) j = nth l j := by simp [nth, List.getD, List.getElem?_append_left h]
theorem nth_append_right (l m : List Int) (j : Nat) : nth (l ++ m) (l.length + j) = nth m j := by simp [nth, List.getD, List.getElem?_append_right (Nat.le_add_right l.length j)]
theorem nth_drop (l : List Int) (k j : Nat) : nth (l.drop k) j = nth l (k + j) := by simp [nth, List.getD]
theorem ext_nth {l m : List Int} (h : l.length = m.length) (e : ∀ j, j < l.length → nth l j = nth m j) : l = m := by
  apply List.ext_getElem h
  intro j h1 h2
  have := e j h1
  rwa [nth_eq l j h1, nth_eq m j h2] at this

/-- The cells of a row of bytes. -/
def bs (zs : List Int) : Array Value := (zs.map (Value.int .u8)).toArray
/-- So many zero bytes. -/
def zeros (n : Nat) : List Int := List.replicate n 0
/-- n bytes: the first k are those of zs, the others zero. -/
def fillTo (zs : List Int) (n k : Nat) : List Int := zs.take k ++ List.replicate (n - k) 0

theorem bs_size (zs : List Int) : (bs zs).size = zs.length := by simp [bs]
theorem bs_get (zs : List Int) (i : Nat) (h : i < zs.length) : (bs zs)[i]? = some (.int .u8 (nth zs i)) := by simp [bs, h, nth, List.getD]
theorem bs_set (zs : List Int) (i : Nat) (v : Int) : (bs zs).setIfInBounds i (.int .u8 v) = bs (zs.set i v) := by
  apply Array.ext'
  simp [bs]
theorem length_zeros (n : Nat) : (zeros n).length = n := by simp [zeros]
theorem length_fillTo (zs : List Int) (n k : Nat) (hk : k ≤ n) (hz : k ≤ zs.length) : (fillTo zs n k).length = n := by simp [fillTo]; omega
theorem fillTo_zero (zs : List Int) (n : Nat) : fillTo zs n 0 = zeros n := by simp [fillTo, zeros]
theorem fillTo_all (zs : List Int) (n : Nat) (h : zs.length = n) : fillTo zs n n = zs := by simp [fillTo, ← h]
theorem fillTo_step (zs : List Int) (n k : Nat) (hk : k < n) (hz : k < zs.length) : (fillTo zs n k).set k (nth zs k) = fillTo zs n (k + 1) := by
  unfold nth
  apply List.ext_getElem?
  intro j
  simp only [fillTo, List.getElem?_set, List.getElem?_append, List.length_take, List.getElem?_take, List.getElem?_replicate, List.length_append, List.length_replicate]
  have h1 : min k zs.length = k := by omega
  have h2 : min (k + 1) zs.length = k + 1 := by omega
  rw [h1, h2]
  by_cases hj : k = j
  · subst hj
    have e : k < k + (n - k) := by omega
    simp [e, List.getD, hz]
  · rw [if_neg hj]
    by_cases hl : j < k
    · simp [hl, show j < k + 1 by omega]
    · simp [hl, show ¬ j < k + 1 by omega]
      have : (j - k < n - k) ↔ (j - (k + 1) < n - (k + 1)) := by omega
      simp [this]

theorem made_bytes (n : Nat) : madeCells (Value.int IntKind.u8 0).cells (n * 1) = bs (zeros n) := by
  apply Array.ext'
  have := toList_madeCells_one (Value.int .u8 0) (n * 1)
  simp only [Value.cells] at this ⊢
  rw [this]
  simp [bs, zeros]

/-- 'make([]byte, n)': the world written out. -/
theorem wpList_make_bytes {P : Program} (w : World) {ops : Array Oper} {rest : List Oper} {o : Oper} {a : Act} {Q : Exit → Act → World → Prop}
    (hg : o.guard = none) (l c : Operand) (t : TypeId) (hop : o.op = Op.makeSlice t l c)
    (e : TypeId) (i : TypeInfo) (h1 : P.underlying t = some (.slice e)) (h2 : P.info? e = some i) (h3 : i.zero = some (.int .u8 0)) (h4 : i.size = 1) (h5 : i.bytes = 1)
    (kl kc : IntKind) (L C : Int) (n : Nat) (hl : a.eval l = .int kl L) (hc : a.eval c = .int kc C) (hL : L = (n : Int)) (hC : C = (n : Int)) (b2 : n ≤ 281474976710656)
    (hK : wpList P ops Q rest (a.put o.dst (.slice (some ⟨w.heap.size, 0, none⟩) n n)) (w.alloc (.cells (bs (zeros n)) e))) :
    wpList P ops Q (o :: rest) a w := by
  refine wpList_plain hg fun K hK' => ?_
  have hrun := run_make (P := P) w t e i (.int .u8 0) h1 h2 h3 kl kc (n : Int) (n : Int) (by omega) (Int.le_refl _) (by rw [h5]; omega) (by omega)
  rw [Int.toNat_natCast, h4, made_bytes] at hrun
  subst hL
  subst hC
  unfold Oper.wp
  simp [execOp, hop, hl, hc, hrun, Result.andThen]
  exact hK' _ _ hK

/-- A new block, over a world that keeps what was there. -/
theorem below_new {w w' : World} (h : Below w.heap.size w w') (o : Obj) : Below w.heap.size w (w'.alloc o) := h.alloc h.size o

/-- The bytes 'zs' lie where 'a' leads. -/
def Row (w : World) (a : Option Addr) (zs : List Int) : Prop :=
  ∀ j, j < zs.length → ∃ b off, a = some ⟨b, off, none⟩ ∧ b < w.heap.size ∧ w.cell? ⟨b, off + j, none⟩ = some (.int .u8 (nth zs j))
theorem Row.nil (w : World) (a : Option Addr) : Row w a [] := fun j hj => by simp at hj
theorem Row.below {w W : World} {a : Option Addr} {zs : List Int} (h : Row w a zs) (hb : Below w.heap.size w W) : Row W a zs := by
  intro j hj
  obtain ⟨b, off, h1, h2, h3⟩ := h j hj
  exact ⟨b, off, h1, Nat.lt_of_lt_of_le h2 hb.size, (hb.cell (p := ⟨b, off + j, none⟩) h2).trans h3⟩
theorem Row.take {w : World} {a : Option Addr} {zs : List Int} (h : Row w a zs) (k : Nat) : Row w a (zs.take k) := by
  intro j hj
  have hj' : j < k ∧ j < zs.length := by simp at hj; omega
  obtain ⟨b, off, h1, h2, h3⟩ := h j hj'.2
  exact ⟨b, off, h1, h2, by rw [nth_take _ _ _ hj'.1]; exact h3⟩
theorem Row.new (w : World) (zs : List Int) : Row (w.alloc (.cells (bs zs) 5)) (some ⟨w.heap.size, 0, none⟩) zs := by
  intro j hj
  refine ⟨_, _, rfl, by simp, ?_⟩
  rw [Nat.zero_add, World.cell?_alloc_at _ _ _ _ rfl, bs_get zs j hj]
/-- A slice of bytes that came in. -/
def IsRow8 (w : World) (a : Option Addr) (len cap : Nat) (zs : List Int) : Prop :=
  (a = none ∧ len = 0 ∧ cap = 0 ∧ zs = []) ∨
  ∃ x, a = some x ∧ len ≤ cap ∧ cap ≤ maxLen ∧ zs.length = cap ∧ (∀ i, i < zs.length → w.cell? (x.add i) = some (.int .u8 (zs.getD i 0))) ∧ ∀ n ∈ zs, (Lit.int .u8 n).wf = true
theorem of_row {w : World} {a : Option Addr} {len cap : Nat} {zs : List Int} (h : IsRow8 w a len cap zs) : len ≤ 9223372036854775807 ∧ len ≤ cap ∧ (a = none → len = 0 ∧ cap = 0) ∧
    ∃ ys : List Int, ys.length = len ∧ Row w a ys ∧ ∀ j, 0 ≤ nth ys j ∧ nth ys j ≤ 255 := by
  rcases h with ⟨rfl, rfl, rfl, rfl⟩ | ⟨x, rfl, h1, h2, h3, hc, hw⟩
  · exact ⟨by omega, by omega, fun _ => ⟨rfl, rfl⟩, [], rfl, Row.nil _ _, fun j => by simp [nth]⟩
  · unfold maxLen at h2
    refine ⟨by omega, h1, fun h => by simp at h, zs.take len, by simp; omega, ?_, ?_⟩
    · intro j hj
      have hj' : j < len ∧ j < zs.length := by simp at hj; omega
      obtain ⟨b, off, spot⟩ := x
      have hspot : spot = none := by simpa [Addr.add] using World.cell?_spot (hc 0 (by omega))
      subst hspot
      have h0 := hc j hj'.2
      rw [Addr.add_lit] at h0
      refine ⟨b, off, rfl, World.block_lt_of_cell? w _ h0, ?_⟩
      rw [h0, nth_take _ _ _ hj'.1]
      rfl
    · intro j
      by_cases hj : j < len ∧ j < zs.length
      · have hm := hw zs[j] (List.getElem_mem hj.2)
        rw [nth_take _ _ _ hj.1, nth_eq _ _ hj.2]
        exact bounds_u8 hm
      · have e : nth (zs.take len) j = 0 := by
          rw [nth, List.getD, List.getElem?_eq_none (by simp; omega)]
          rfl
        rw [e]
        omega

/-- The bytes of a string. -/
def sb (s : ByteArray) : List Int := s.data.toList.map (fun c => (c.toNat : Int))
theorem length_sb (s : ByteArray) : (sb s).length = s.size := by
  simp [sb]
theorem nth_sb (s : ByteArray) (j : Nat) (h : j < s.size) : nth (sb s) j = ((s[j]'h).toNat : Int) := by
  rw [nth_eq _ _ (by rw [length_sb]; exact h)]
  simp [sb]
  rfl
theorem sb_strOf (zs : List Int) (h : ∀ j, 0 ≤ nth zs j ∧ nth zs j ≤ 255) : sb (strOfNums zs) = zs := by
  have hl : (sb (strOfNums zs)).length = zs.length := by rw [length_sb, strOfNums_size]
  apply ext_nth hl
  intro j hj
  rw [hl] at hj
  have hz := h j
  rw [nth_eq zs j hj] at hz ⊢
  rw [nth_eq _ _ (by omega)]
  simp only [sb, List.getElem_map, strOfNums_data]
  simp
  omega

/-! Draws stand outermost. -/
theorem setCell_drewN (w : World) (n : Nat) (a : Addr) (v : Value) : (w.drewN n).setCell a v = (w.setCell a v).drewN n := rfl
theorem alloc_drewN (w : World) (n : Nat) (o : Obj) : (w.drewN n).alloc o = (w.alloc o).drewN n := rfl
end Go.Proofs.Qxb6601935a
