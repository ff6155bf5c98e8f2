/-
  A row of pairs of strings, made and filled: of whatever program.
-/
import Derived.Test.Qxb6601935aSet
namespace Go.Proofs.Qxb6601935a
open Go.RowKit
set_option linter.unusedVariables false

/-- The rules as cells. -/
def flat : RL → List Value
  | [] => []
  | p :: r => .string p.1 :: .string p.2 :: flat r
/-- n rules, the first i of them those of rs, the others empty. -/
def fillR (rs : RL) (n i : Nat) : Array Value := (flat (rs.take i) ++ List.replicate (2 * (n - i)) (Value.string ⟨#[]⟩)).toArray

theorem length_flat : ∀ rs : RL, (flat rs).length = 2 * rs.length
  | [] => rfl
  | p :: r => by simp [flat, length_flat r]; omega
theorem flat_append : ∀ (a b : RL), flat (a ++ b) = flat a ++ flat b
  | [], b => rfl
  | p :: r, b => by simp [flat, flat_append r b]
theorem flat_get : ∀ (rs : RL) (j : Nat), j < rs.length → (flat rs)[j * 2]? = some (.string (sufAt rs j)) ∧ (flat rs)[j * 2 + 1]? = some (.string (withAt rs j))
  | [], j, h => by simp at h
  | p :: r, 0, h => by simp [flat, sufAt, withAt]
  | p :: r, j + 1, h => by
    have ih := flat_get r j (by simpa using h)
    have e : (j + 1) * 2 = j * 2 + 1 + 1 := by omega
    rw [e]
    simp only [flat, List.getElem?_cons_succ]
    simpa [sufAt, withAt] using ih
theorem take_snoc (rs : RL) (i : Nat) (h : i < rs.length) : rs.take (i + 1) = rs.take i ++ [(sufAt rs i, withAt rs i)] := by
  have e : (rs[i] : ByteArray × ByteArray) = (sufAt rs i, withAt rs i) := by simp [sufAt, withAt, List.getD, h]
  rw [← e]
  exact List.take_succ_eq_append_getElem h

theorem size_fillR (rs : RL) (n i : Nat) (hi : i ≤ n) (hr : i ≤ rs.length) : (fillR rs n i).size = 2 * n := by
  simp [fillR, length_flat]; omega
theorem fillR_get (rs : RL) (n i : Nat) (hi : i < n) (hr : i ≤ rs.length) : (fillR rs n i)[i * 2]? = some (.string ⟨#[]⟩) ∧ (fillR rs n i)[i * 2 + 1]? = some (.string ⟨#[]⟩) := by
  have hl : (flat (rs.take i)).length = i * 2 := by rw [length_flat, List.length_take]; omega
  simp only [fillR, List.getElem?_toArray]
  rw [List.getElem?_append_right (by omega), List.getElem?_append_right (by omega), hl]
  constructor
  · rw [List.getElem?_replicate, if_pos (by omega)]
  · rw [List.getElem?_replicate, if_pos (by omega)]
theorem fillR_step (rs : RL) (n i : Nat) (hi : i < n) (hr : i < rs.length) :
    ((fillR rs n i).setIfInBounds (i * 2) (.string (sufAt rs i))).setIfInBounds (i * 2 + 1) (.string (withAt rs i)) = fillR rs n (i + 1) := by
  have hl : (flat (rs.take i)).length = i * 2 := by rw [length_flat, List.length_take]; omega
  apply Array.ext'
  simp only [fillR, Array.toList_setIfInBounds]
  rw [take_snoc rs i hr, flat_append]
  have e : 2 * (n - i) = 2 * (n - (i + 1)) + 1 + 1 := by omega
  rw [e, List.replicate_succ, List.replicate_succ]
  rw [List.set_append_right _ _ (by omega), hl, Nat.sub_self, List.set_cons_zero]
  rw [List.set_append_right _ _ (by omega), hl]
  have e2 : i * 2 + 1 - i * 2 = 0 + 1 := by omega
  rw [e2, List.set_cons_succ, List.set_cons_zero]
  simp [flat]
theorem fillR_all (rs : RL) : fillR rs rs.length rs.length = (flat rs).toArray := by
  simp [fillR]
theorem made_pairs (rs : RL) (n : Nat) : madeCells (Value.agg #[.string ⟨#[]⟩, .string ⟨#[]⟩]).cells (n * 2) = fillR rs n 0 := by
  apply Array.ext'
  apply List.ext_getElem?
  intro j
  have e : 2 * (n - 0) = n * 2 := by omega
  simp only [fillR, List.take_zero, flat, List.nil_append, e, List.getElem?_replicate]
  by_cases hj : j < n * 2
  · rw [if_pos hj]
    have h2 : j % 2 = 0 ∨ j % 2 = 1 := by omega
    rcases h2 with h2 | h2 <;> simp [madeCells, Value.cells, hj, h2]
  · rw [if_neg hj]
    simp [madeCells, hj]

/-- 'make([]T, n)': the world written out. -/
theorem wpList_make_exact {P : Program} (w : World) {ops : Array Oper} {rest : List Oper} {o : Oper} {a : Act} {Q : Exit → Act → World → Prop}
    (hg : o.guard = none) (l c : Operand) (t : TypeId) (hop : o.op = Op.makeSlice t l c)
    (e : TypeId) (i : TypeInfo) (z : Value) (size bytes : Nat) (h1 : P.underlying t = some (.slice e)) (h2 : P.info? e = some i) (h3 : i.zero = some z) (h4 : i.size = size) (h5 : i.bytes = bytes)
    (kl kc : IntKind) (L C : Int) (n : Nat) (hl : a.eval l = .int kl L) (hc : a.eval c = .int kc C) (hL : L = (n : Int)) (hC : C = (n : Int)) (b2 : bytes * n ≤ 281474976710656) (b3 : n ≤ 9223372036854775807)
    (arr : Array Value) (harr : madeCells z.cells (n * size) = arr)
    (hK : wpList P ops Q rest (a.put o.dst (.slice (some ⟨w.heap.size, 0, none⟩) n n)) (w.alloc (.cells arr e))) :
    wpList P ops Q (o :: rest) a w := by
  refine wpList_plain hg fun K hK' => ?_
  have hb : (i.bytes : Int) * (n : Int) ≤ 281474976710656 := by
    rw [h5]
    have : ((bytes * n : Nat) : Int) ≤ 281474976710656 := by omega
    rwa [Int.natCast_mul] at this
  have hrun := run_make (P := P) w t e i z h1 h2 h3 kl kc (n : Int) (n : Int) (by omega) (Int.le_refl _) hb (by omega)
  rw [Int.toNat_natCast, h4, harr] at hrun
  subst hL
  subst hC
  unfold Oper.wp
  simp [execOp, hop, hl, hc, hrun, Result.andThen]
  exact hK' _ _ hK

theorem Rules.new (w : World) (rs : RL) (t : TypeId) : Rules (w.alloc (.cells (flat rs).toArray t)) (some ⟨w.heap.size, 0, none⟩) rs := by
  intro j hj
  obtain ⟨g1, g2⟩ := flat_get rs j hj
  refine ⟨_, _, rfl, by simp, ?_, ?_⟩
  · rw [Nat.zero_add, World.cell?_alloc_at _ _ _ _ rfl, List.getElem?_toArray, g1]
  · rw [Nat.zero_add, World.cell?_alloc_at _ _ _ _ rfl, List.getElem?_toArray, g2]

/-- An entry of a table that the call makes: its rules lie in blocks behind B. -/
def Ent (w : World) (B : Nat) (v : Value) (rs : RL) : Prop :=
  ∃ a c, v = .slice a rs.length c ∧ (a = none → rs.length = 0 ∧ c = 0) ∧ (∀ x, a = some x → B < x.block ∧ x.block < w.heap.size) ∧ Rules w a rs
theorem Ent.kept {w w' : World} {B : Nat} {v : Value} {rs : RL} (h : Ent w B v rs) (hs : w.heap.size ≤ w'.heap.size) (hk : ∀ b, B < b → b < w.heap.size → w'.heap[b]? = w.heap[b]?) : Ent w' B v rs := by
  obtain ⟨a, c, h1, h2, h3, h4⟩ := h
  refine ⟨a, c, h1, h2, fun x hx => ⟨(h3 x hx).1, Nat.lt_of_lt_of_le (h3 x hx).2 hs⟩, fun j hj => ?_⟩
  obtain ⟨b, off, g1, g2, g3, g4⟩ := h4 j hj
  have hb := (h3 _ g1).1
  have e := hk b hb g2
  exact ⟨b, off, g1, Nat.lt_of_lt_of_le g2 hs, (World.cell?_of_block (a := ⟨b, off + j * 2, none⟩) e).trans g3, (World.cell?_of_block (a := ⟨b, off + j * 2 + 1, none⟩) e).trans g4⟩
theorem Ent.nil (w : World) (B : Nat) : Ent w B (.slice none 0 0) [] := ⟨none, 0, rfl, fun _ => ⟨rfl, rfl⟩, fun x h => (by cases h), fun j hj => by simp at hj⟩

/-- A whole array is stored over a row. -/
theorem wpList_store_row {P : Program} {ops : Array Oper} {rest : List Oper} {op : Oper} {a : Act} {w : World} {Q : Exit → Act → World → Prop} (hgd : op.guard = none) (ty : TypeId) (x y : Operand) (ho : op.op = .store ty x y)
    (g : Nat) (cs : Array Value) (hx : a.eval x = .pointer (some ⟨g, 0, none⟩)) (hy : a.eval y = .agg cs) (old : Array Value) (t : TypeId) (hg : w.heap[g]? = some (.cells old t)) (hs : old.size = cs.size)
    (hi : (P.info? ty).map (·.size) = some cs.size) (h1 : ∀ v ∈ cs.toList, v.oneCell' = true)
    (h : wpList P ops Q rest (a.put op.dst undef) (w.setRow g cs)) : wpList P ops Q (op :: rest) a w := by
  refine wpList_plain hgd fun K hK => ?_
  have hst := run_storeCells_at P g 0 t cs.toList 0 old w hg (by simp; omega) h1
  have e : (old.toList.take (0 + 0) ++ cs.toList ++ old.toList.drop (0 + 0 + cs.toList.length)).toArray = cs := by
    apply Array.ext'
    simp; omega
  rw [e] at hst
  have hrun : (storeVar ty ⟨g, 0, none⟩ (.agg cs)).run P w = .ok () (w.setRow g cs) := by
    cases hq : P.info? ty with
    | none => simp [hq] at hi
    | some i =>
      have hsz : cs.size = i.size := by simp [hq] at hi; omega
      simp [storeVar, sizeOf, typeInfo, hq, Value.cells, hsz, hst]
  unfold Oper.wp execOp
  simp only [ho, hx, hy, Instr.storeAt, Instr.sureAddr, Sem.run_bind, Sem.run_pure, Result.andThen_ok, hrun]
  exact hK _ _ h

/-- The table, its rules all in blocks from B on. -/
def SetIn (B : Nat) (w : World) (arr : Array Value) (T : Nat → RL) : Prop :=
  arr.size = 26 ∧ ∀ k, k < 26 → ∃ a c, arr[k]? = some (.slice a (T k).length c) ∧ (a = none → (T k).length = 0 ∧ c = 0) ∧ (∀ x, a = some x → B ≤ x.block) ∧ Rules w a (T k)
theorem SetIn.setAt {B : Nat} {w : World} {arr : Array Value} {T : Nat → RL} (h : SetIn B w arr T) : SetAt w arr T := by
  refine ⟨h.1, fun k hk => ?_⟩
  obtain ⟨a, c, h1, h2, _, h4⟩ := h.2 k hk
  exact ⟨a, c, h1, h2, h4⟩
theorem SetIn.kept {B : Nat} {w w' : World} {arr : Array Value} {T : Nat → RL} (h : SetIn B w arr T) (hs : w.heap.size ≤ w'.heap.size) (hk : ∀ b, B ≤ b → b < w.heap.size → w'.heap[b]? = w.heap[b]?) : SetIn B w' arr T := by
  refine ⟨h.1, fun k hk' => ?_⟩
  obtain ⟨a, c, h1, h2, h3, h4⟩ := h.2 k hk'
  refine ⟨a, c, h1, h2, h3, fun j hj => ?_⟩
  obtain ⟨b, off, g1, g2, g3, g4⟩ := h4 j hj
  have e := hk b (h3 _ g1) g2
  exact ⟨b, off, g1, Nat.lt_of_lt_of_le g2 hs, (World.cell?_of_block (a := ⟨b, off + j * 2, none⟩) e).trans g3, (World.cell?_of_block (a := ⟨b, off + j * 2 + 1, none⟩) e).trans g4⟩
theorem SetAt.oneCell {w : World} {arr : Array Value} {T : Nat → RL} (h : SetAt w arr T) : ∀ v ∈ arr.toList, v.oneCell' = true := by
  intro v hv
  obtain ⟨k', hk', he⟩ := List.getElem_of_mem hv
  have hk2 : k' < 26 := by have := h.1; simp at hk'; omega
  obtain ⟨a, c, h1, _⟩ := h.2 k' hk2
  have e1 : arr[k']? = some v := by rw [← he]; simp
  rw [e1] at h1
  obtain rfl := Option.some.inj h1
  rfl
end Go.Proofs.Qxb6601935a
