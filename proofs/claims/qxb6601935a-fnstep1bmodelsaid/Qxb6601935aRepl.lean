/-
  The walk of replace: the rule that it picks, and what it makes of the word.
-/
import Derived.Test.Qxb6601935aRule
import Derived.Test.Qxb6601935aMeas
import Derived.Lib.AppendStr
namespace Go.Proofs.Qxb6601935a
open Go.RowKit
set_option linter.unusedVariables false
attribute [local go_sem] setCell_drewN alloc_drewN

/-- The rule that is picked among the first i: -1, or the first of those with the longest suffix that the word ends with. -/
def pickTo (zs : List Int) (rs : RL) : Nat → Int
  | 0 => -1
  | i + 1 => if endsB zs (sb (sufAt rs i)) && (decide (pickTo zs rs i < 0) || decide ((sufAt rs (pickTo zs rs i).toNat).size < (sufAt rs i).size)) then (i : Int) else pickTo zs rs i
theorem pickTo_bd (zs : List Int) (rs : RL) : ∀ i, -1 ≤ pickTo zs rs i ∧ pickTo zs rs i < i
  | 0 => by simp [pickTo]
  | i + 1 => by
    have := pickTo_bd zs rs i
    simp only [pickTo]
    split <;> omega
theorem pickTo_ends (zs : List Int) (rs : RL) : ∀ i, 0 ≤ pickTo zs rs i → endsB zs (sb (sufAt rs (pickTo zs rs i).toNat)) = true
  | 0 => by simp [pickTo]
  | i + 1 => by
    have ih := pickTo_ends zs rs i
    simp only [pickTo]
    split
    · rename_i h
      intro _
      simp only [Bool.and_eq_true] at h
      simpa using h.1
    · exact ih

/-- All but block g of what was there is as it was. -/
structure But (g : Nat) (w w' : World) : Prop where
  os : w'.os = w.os
  tape : w'.tape = w.tape
  output : w'.output = w.output
  size : w.heap.size ≤ w'.heap.size
  block : ∀ b, b < w.heap.size → b ≠ g → w'.heap[b]? = w.heap[b]?
theorem But.of_below {g : Nat} {w w' : World} (h : Below w.heap.size w w') : But g w w' := ⟨h.os, h.tape, h.output, h.size, fun b hb _ => h.block b hb⟩
theorem But.below {g B : Nat} {w w' : World} (h : But g w w') (hB : B ≤ w.heap.size) (hg : B ≤ g) : Below B w w' := ⟨h.os, h.tape, h.output, h.size, fun b hb => h.block b (by omega) (by omega)⟩
theorem But.trans {g : Nat} {a b c : World} (h : But g a b) (k : But g b c) : But g a c :=
  ⟨k.os.trans h.os, k.tape.trans h.tape, k.output.trans h.output, Nat.le_trans h.size k.size, fun i hi hg => (k.block i (Nat.lt_of_lt_of_le hi h.size) hg).trans (h.block i hi hg)⟩
theorem But.setRow {g : Nat} {w w' : World} (h : But g w w') (cs : Array Value) : But g w (w'.setRow g cs) :=
  ⟨h.os, h.tape, h.output, by simpa using h.size, fun b hb hg => (setRow_other w' g b cs hg).trans (h.block b hb hg)⟩
theorem But.drewN {g : Nat} {w w' : World} (h : But g w w') (n : Nat) : But g w (w'.drewN n) := ⟨h.os, h.tape, h.output, h.size, h.block⟩
theorem Row.but {g : Nat} {w W : World} {x : Nat} {zs : List Int} (h : Row w (some ⟨x, 0, none⟩) zs) (hx : x ≠ g) (hb : But g w W) : Row W (some ⟨x, 0, none⟩) zs := by
  intro j hj
  obtain ⟨b, off, h1, h2, h3⟩ := h j hj
  have e := h1
  simp only [Option.some.injEq, Addr.mk.injEq, and_true] at e
  obtain ⟨rfl, rfl⟩ := e
  exact ⟨_, _, rfl, Nat.lt_of_lt_of_le h2 hb.size, (World.cell?_of_block (a := ⟨x, 0 + j, none⟩) (hb.block x h2 hx)).trans h3⟩
/-- The row is the whole of block g, and it may be written. -/
theorem Row.own {w : World} {g : Nat} {zs : List Int} (h : w.heap[g]? = some (.cells (bs zs) 5)) : Row w (some ⟨g, 0, none⟩) zs := by
  intro j hj
  refine ⟨_, _, rfl, (Array.getElem?_eq_some_iff.1 h).1, ?_⟩
  rw [Nat.zero_add]
  simp [World.cell?, h, bs_get zs j hj]

/-- An append whose run is known. -/
theorem wpList_append_by {P : Program} {w : World} {ops : Array Oper} {rest : List Oper} {o : Oper} {a : Act} {Q : Exit → Act → World → Prop} (hg : o.guard = none) (s x : Operand) (t u : TypeId)
    (hop : o.op = Op.call { callee := Callee.builtin Builtin.append, args := #[s, x], argTypes := #[t, u] }) (sv xv : Value) (hs : a.eval s = sv) (hx : a.eval x = xv) (v : Value) (w' : World)
    (hrun : (Builtin.append_ #[t, u] o.type #[sv, xv]).run P w = .ok v w') (hK : wpList P ops Q rest (a.put o.dst v) w') : wpList P ops Q (o :: rest) a w := by
  refine wpList_plain hg fun K hK' => ?_
  unfold Oper.wp
  simp [execOp, hop, resolve, invoke, builtin, hs, hx, hrun, Result.andThen]
  exact hK' _ _ hK
theorem strCells_sb (s : ByteArray) : Lib.strCells s = (sb s).map (Value.int .u8) := by simp [Lib.strCells, sb]

/-- What an append onto the first m of the n bytes in block g comes to. -/
def AppOut (w : World) (g n m : Nat) (zs : List Int) (t : List Int) (e : Ending) (w' : World) : Prop :=
  (m + t.length ≤ n → e = .returned (.slice (some ⟨g, 0, none⟩) (m + t.length) n) ∧ w'.heap[g]? = some (.cells (bs (zs.take m ++ t ++ zs.drop (m + t.length))) 5) ∧ But g w w') ∧
  (n < m + t.length → ∃ x c, e = .returned (.slice (some x) (m + t.length) c) ∧ Row w' (some x) (zs.take m ++ t) ∧ Below w.heap.size w w')
/-- What replace comes to. -/
def RepOut (w : World) (g n : Nat) (zs : List Int) (rs : RL) (least : Int) (e : Ending) (w' : World) : Prop :=
  (pickTo zs rs rs.length < 0 ∨ (meas (zs.take (n - (sufAt rs (pickTo zs rs rs.length).toNat).size)) : Int) ≤ least → e = .returned (.slice (some ⟨g, 0, none⟩) n n) ∧ Below w.heap.size w w') ∧
  (0 ≤ pickTo zs rs rs.length → least < (meas (zs.take (n - (sufAt rs (pickTo zs rs rs.length).toNat).size)) : Int) →
    AppOut w g n (n - (sufAt rs (pickTo zs rs rs.length).toNat).size) zs (sb (withAt rs (pickTo zs rs rs.length).toNat)) e w')
theorem RepOut.keep {w : World} {g n : Nat} {zs : List Int} {rs : RL} {least : Int} {w' : World} (h : pickTo zs rs rs.length < 0 ∨ (meas (zs.take (n - (sufAt rs (pickTo zs rs rs.length).toNat).size)) : Int) ≤ least) (hb : Below w.heap.size w w') :
    RepOut w g n zs rs least (.returned (.slice (some ⟨g, 0, none⟩) n n)) w' := ⟨fun _ => ⟨rfl, hb⟩, fun h1 h2 => by omega⟩

set_option maxHeartbeats 2000000 in
theorem repl_any (g n B : Nat) (zs : List Int) (hl : zs.length = n) (hn : n ≤ 4096) (h1 : 1 ≤ n) (hr : ∀ j, 0 ≤ nth zs j ∧ nth zs j ≤ 255) (hlo : 97 ≤ nth zs (n - 1)) (hhi : nth zs (n - 1) ≤ 122)
    (out : Array Value) (T : Nat → RL) (least : Int) (w : World) (hg : w.heap[g]? = some (.cells (bs zs) 5)) (hB : w.heap[B]? = some (.cells out 56)) (hS : SetAt w out T) (hsm : ∀ k, k < 26 → Small (T k)) :
    Calls Try.prog 36 #[.slice (some ⟨g, 0, none⟩) n n, .pointer (some ⟨B, 0, none⟩), .int .i64 least] w (RepOut w g n zs (T (nth zs (n - 1) - 97).toNat) least) := by
  obtain ⟨k, hk⟩ : ∃ k : Nat, nth zs (n - 1) = (k : Int) + 97 := ⟨(nth zs (n - 1) - 97).toNat, by omega⟩
  have hk26 : k < 26 := by omega
  have ek : (nth zs (n - 1) - 97).toNat = k := by omega
  rw [ek]
  have ha := Row.own hg
  obtain ⟨a, c, o1, _, hR⟩ := hS.2 k hk26
  have hsm' := hsm k hk26
  obtain ⟨b', off', hx, hgw, hc⟩ := ha (n - 1) (by omega)
  simp only [Option.some.injEq, Addr.mk.injEq, and_true] at hx
  obtain ⟨rfl, rfl⟩ := hx
  rw [Nat.zero_add, hk] at hc
  have cO : w.cell? ⟨B, k, none⟩ = some (.slice a (T k).length c) := by rw [← o1]; simp [World.cell?, hB]
  have hBw : B < w.heap.size := (Array.getElem?_eq_some_iff.1 hB).1
  have hnb : (0 : Int) ≤ (n : Int) - 1 := by omega
  have hk26' : (k : Int) < 26 := by omega
  generalize hrs : T k = rs at *
  have HG : Hid (w.heap[g]? = some (.cells (bs zs) 5)) := hg
  have HA : Hid (Row w (some ⟨g, 0, none⟩) zs) := ha
  have HR : Hid (Rules w a rs) := hR
  have HSM : Hid _ := hsm'
  have HRG : Hid _ := hr
  clear hS hsm ha hR hsm' hr hrs hk hlo hhi o1 hg ek hB
  have hlen := HSM.out.1
  go_enter Try.func36, Try.ntmps36
  go_wp2
  go_quiet (fail)
  go_wp2
  have E : ∀ (s : ByteArray) (W : World), s.size ≤ 1048576 → Below w.heap.size w W → Calls Try.prog 38 #[.slice (some ⟨g, 0, none⟩) n n, .string s] W fun e w' => e = .returned (.bool (endsB zs (sb s))) ∧ W = w' := fun s W hs hW => has_any g 0 n n zs hl (by omega) (Nat.le_refl _) HRG.out s hs W (Row.below HA.out hW)
  have HE : Hid _ := E
  clear E
  go_loopw [8, 26] (fun p i wr => ∃ j : Nat, j ≤ rs.length ∧ i = .int .i64 j ∧ p = .int .i64 (pickTo zs rs j) ∧ Below w.heap.size w wr) (fun _ i _ => rs.length - (intOf i).toNat)
  case atStart => exact ⟨0, by omega, rfl, rfl, below_drewN (Below.refl _ _) _⟩
  case round =>
    obtain ⟨j, hj, rfl, rfl, hBw'⟩ := hrel
    have HB : Hid _ := hBw'
    clear hBw'
    obtain ⟨p0, p1⟩ := pickTo_bd zs rs j
    have hps : pickTo zs rs (j + 1) = if endsB zs (sb (sufAt rs j)) && (decide (pickTo zs rs j < 0) || decide ((sufAt rs (pickTo zs rs j).toNat).size < (sufAt rs j).size)) then (j : Int) else pickTo zs rs j := rfl
    have HPS : Hid _ := hps
    clear hps
    by_cases hjl : j < rs.length
    · have hR' := Rules.below HR.out HB.out
      obtain ⟨b, off, rfl, hb, g1, g2⟩ := hR' j hjl
      obtain ⟨z1, z2⟩ := HSM.out.2 j hjl
      have HR2 : Hid (∀ q, q < rs.length → wr.cell? ⟨b, off + q * 2, none⟩ = some (.string (sufAt rs q))) := by
        intro q hq
        obtain ⟨b2, off2, hx, _, g3, _⟩ := hR' q hq
        simp only [Option.some.injEq, Addr.mk.injEq, and_true] at hx
        obtain ⟨rfl, rfl⟩ := hx
        exact g3
      clear hR'
      have hjl' : (j : Int) < (rs.length : Int) := by omega
      have hgwr : g < wr.heap.size := Nat.lt_of_lt_of_le hgw HB.out.size
      generalize hp : pickTo zs rs j = p at *
      generalize hs1 : sufAt rs j = s1 at *
      generalize withAt rs j = s2 at *
      have HP : Hid _ := hp
      have HS1 : Hid _ := hs1
      clear hp hs1
      have hcall := fun W hW => HE.out s1 W z1 hW
      cases he : endsB zs (sb s1) with
      | false =>
        have hn1 : pickTo zs rs (j + 1) = p := by rw [HPS.out, he]; simp
        have HN : Hid _ := hn1
        rw [he] at hcall
        have HC : Hid _ := hcall
        clear hcall hn1 he
        go_wp2
        go_quiet ((go_at_call 38; exact Calls.mono (HC.out _ (below_drewN (HB.out.alloc HB.out.size _) _)) (fun e w'' h => ⟨h.1, _, h.2.symm⟩)))
        go_wp2
        go_roundw
        case rel => exact ⟨j + 1, by omega, by go_num, by rw [HN.out], below_drewN (HB.out.alloc HB.out.size _) _⟩
        case measure => simp [intOf]; omega
      | true =>
        rw [he] at hcall
        have HC : Hid _ := hcall
        clear hcall
        by_cases hp0 : p < 0
        · have hn1 : pickTo zs rs (j + 1) = (j : Int) := by rw [HPS.out, he]; simp [hp0]
          have HN : Hid _ := hn1
          have hp0' : decide (p < 0) = true := by simpa using hp0
          clear hn1 he
          go_wp2
          go_quiet ((go_at_call 38; exact Calls.mono (HC.out _ (below_drewN (HB.out.alloc HB.out.size _) _)) (fun e w'' h => ⟨h.1, _, h.2.symm⟩)))
          go_wp2
          go_roundw
          case rel => exact ⟨j + 1, by omega, by go_num, by rw [HN.out], below_drewN (HB.out.alloc HB.out.size _) _⟩
          case measure => simp [intOf]; omega
        · obtain ⟨q, rfl⟩ : ∃ q : Nat, p = (q : Int) := ⟨p.toNat, by omega⟩
          have hq : q < rs.length := by omega
          have g3 := HR2.out q hq
          have z3 := (HSM.out.2 q hq).1
          have hpe : sufAt rs ((q : Int)).toNat = sufAt rs q := by rw [Int.toNat_natCast]
          rw [hpe] at HPS
          generalize sufAt rs q = s3 at *
          have hp0' : decide ((q : Int) < 0) = false := by simp
          have hq' : (q : Int) < (rs.length : Int) := by omega
          by_cases hlt : s3.size < s1.size
          · have hn1 : pickTo zs rs (j + 1) = (j : Int) := by rw [HPS.out, he]; simp [hlt]
            have HN : Hid _ := hn1
            have hlt' : decide ((s3.size : Int) < (s1.size : Int)) = true := by simp; omega
            clear hn1 he
            go_wp2
            go_quiet ((go_at_call 38; exact Calls.mono (HC.out _ (below_drewN (HB.out.alloc HB.out.size _) _)) (fun e w'' h => ⟨h.1, _, h.2.symm⟩)))
            go_wp2
            go_roundw
            case rel => exact ⟨j + 1, by omega, by go_num, by rw [HN.out], below_drewN (HB.out.alloc HB.out.size _) _⟩
            case measure => simp [intOf]; omega
          · have hn1 : pickTo zs rs (j + 1) = (q : Int) := by rw [HPS.out, he]; simp [hlt]; omega
            have HN : Hid _ := hn1
            have hlt' : decide ((s3.size : Int) < (s1.size : Int)) = false := by simp; omega
            clear hn1 he
            go_wp2
            go_quiet ((go_at_call 38; exact Calls.mono (HC.out _ (below_drewN (HB.out.alloc HB.out.size _) _)) (fun e w'' h => ⟨h.1, _, h.2.symm⟩)))
            go_wp2
            go_roundw
            case rel => exact ⟨j + 1, by omega, by go_num, by rw [HN.out], below_drewN (HB.out.alloc HB.out.size _) _⟩
            case measure => simp [intOf]; omega
    · obtain rfl : j = rs.length := by omega
      generalize hp : pickTo zs rs rs.length = p at *
      have HP : Hid _ := hp
      have hends := pickTo_ends zs rs rs.length
      rw [hp] at hends
      clear hp HPS
      by_cases hp0 : p < 0
      · clear hends
        go_wp2_with fail
        go_ret
        exact RepOut.keep (.inl (by rw [HP.out]; exact hp0)) HB.out
      · obtain ⟨q, rfl⟩ : ∃ q : Nat, p = (q : Int) := ⟨p.toNat, by omega⟩
        have hq : q < rs.length := by omega
        have hR' := Rules.below HR.out HB.out
        obtain ⟨b, off, rfl, hb, g1, g2⟩ := hR' q hq
        obtain ⟨z1, z2⟩ := HSM.out.2 q hq
        have he := hends (by omega)
        rw [Int.toNat_natCast] at he
        have hq' : (q : Int) < (rs.length : Int) := by omega
        generalize hs1 : sufAt rs q = s1 at *
        generalize hs2 : withAt rs q = s2 at *
        have hcut := cut_yes g 0 n n zs hl (by omega) (Nat.le_refl _) HRG.out s1 z1 wr (Row.below HA.out HB.out) he
        have HC : Hid _ := hcut
        have hmle : n - s1.size ≤ n := by omega
        have hmeas := meas_any g 0 (n - s1.size) n (zs.take (n - s1.size)) (by simp; omega) (by omega) wr (Row.take (Row.below HA.out HB.out) _)
        have HM : Hid _ := hmeas
        have HS1 : Hid _ := hs1
        have HS2 : Hid _ := hs2
        clear hends hR' he hcut hmeas hs1 hs2
        go_wp2_with fail
        refine Calls.mono HC.out ?_
        rintro e w' ⟨rfl, rfl⟩
        go_wp2_with fail
        refine Calls.mono HM.out ?_
        rintro e w' ⟨rfl, rfl⟩
        by_cases hms : (meas (zs.take (n - s1.size)) : Int) ≤ least
        · have hf : pickTo zs rs rs.length < 0 ∨ (meas (zs.take (n - (sufAt rs (pickTo zs rs rs.length).toNat).size)) : Int) ≤ least := .inr (by rw [HP.out, Int.toNat_natCast, HS1.out]; exact hms)
          have HF : Hid _ := hf
          clear hf
          generalize (meas (zs.take (n - s1.size)) : Int) = mm at hms
          go_wp2_with fail
          go_ret
          exact RepOut.keep HF.out HB.out
        · obtain ⟨i0', hi, hi1, hi2, hi3⟩ := info_parts Try.info5
          obtain ⟨m, hm⟩ : ∃ m, m = n - s1.size := ⟨_, rfl⟩
          have hfin : ∀ e w', AppOut w g n m zs (sb s2) e w' → RepOut w g n zs rs least e w' := by
            intro e w' h
            refine ⟨fun h1 => ?_, fun _ _ => ?_⟩
            · rw [HP.out, Int.toNat_natCast, HS1.out] at h1
              omega
            · rw [HP.out, Int.toNat_natCast, HS1.out, HS2.out, ← hm]
              exact h
          have HF : Hid _ := hfin
          have hmn : m ≤ n := by omega
          rw [← hm] at hms ⊢
          have hown : wr.heap[g]? = some (.cells (bs zs) 5) := by rw [HB.out.block g hgw]; exact HG.out
          clear hfin HC HM
          generalize (meas (zs.take m) : Int) = mm at hms
          by_cases hfit : m + s2.size ≤ n
          · have hrun := Lib.run_append_room_string (P := Try.prog) wr 38 9 38 5 i0' Try.underlying38 Try.underlying9 hi hi2 g m n (bs zs) hown s2 hfit (by rw [bs_size]; omega)
            have e1 : ((bs zs).toList.take m ++ Lib.strCells s2 ++ (bs zs).toList.drop (m + s2.size)).toArray = bs (zs.take m ++ sb s2 ++ zs.drop (m + (sb s2).length)) := by
              apply Array.ext'
              simp [bs, strCells_sb, length_sb]
            rw [e1] at hrun
            clear hm hown e1
            go_wp2_with (at_builtin; refine wpList_append_by rfl (.tmp 71) (.tmp 76) 38 9 rfl _ _ rfl rfl _ _ hrun ?_)
            go_ret
            refine HF.out _ _ ⟨fun _ => ⟨by rw [length_sb]; rfl, ?_, ?_⟩, fun h => by rw [length_sb] at h; omega⟩
            · rw [List.append_assoc]
              exact setRow_heap wr g (bs zs) _ 5 _ (by rw [HB.out.block g hgw]; exact HG.out)
            · exact (But.of_below HB.out).setRow _
          · have hcap : Builtin.nextslicecap (m + s2.size) n * i0'.bytes ≤ 281474976710656 := by
              have := nextslicecap_le (need := m + s2.size) (old := n) (by omega)
              rw [hi3]
              omega
            have hold : ∀ (j : Nat) (v : Value), ((zs.take m).map (Value.int .u8))[j]? = some v → wr.cell? ((⟨g, 0, none⟩ : Addr).add j) = some v := by
              intro j v hv
              have hj : j < m := by have := (List.getElem?_eq_some_iff.1 hv).1; simp at this; omega
              rw [Addr.add_lit, Nat.zero_add, ← hv]
              have := bs_get zs j (by omega)
              simp only [World.cell?, hown]
              rw [if_neg (by simp), this]
              simp [hj, nth, List.getD, show j < zs.length by omega]
            have hrun := Lib.run_append_grow_string (P := Try.prog) wr 38 9 38 5 i0' _ Try.underlying38 Try.underlying9 hi hi1 ⟨g, 0, none⟩ m n ((zs.take m).map (Value.int .u8)) (by rw [hi2]; simp; omega) hold s2 (by omega) (by omega) hcap
            have e1 : ((zs.take m).map (Value.int .u8)).toArray ++ (Lib.strCells s2).toArray = bs (zs.take m ++ sb s2) := by
              apply Array.ext'
              simp [bs, strCells_sb]
            rw [e1] at hrun
            obtain ⟨X, hX⟩ : ∃ X, X = bs (zs.take m ++ sb s2) ++ Builtin.zeroCells (Value.int IntKind.u8 0).cells (grownCap wr (m + s2.size) n 5 - (m + s2.size)) := ⟨_, rfl⟩
            rw [← hX] at hrun
            have hXg : ∀ j, j < (zs.take m ++ sb s2).length → X[j]? = some (.int .u8 (nth (zs.take m ++ sb s2) j)) := by
              intro j hj
              rw [hX, Array.getElem?_append_left (by rw [bs_size]; exact hj), bs_get _ _ hj]
            generalize grownCap wr (m + s2.size) n 5 = cc at hrun
            have HX : Hid _ := hXg
            clear hm hown hcap hold e1 hX hXg
            go_wp2_with (at_builtin; refine wpList_append_by rfl (.tmp 71) (.tmp 76) 38 9 rfl _ _ rfl rfl _ _ hrun ?_)
            go_ret
            refine HF.out _ _ ⟨fun h => by rw [length_sb] at h; omega, fun _ => ⟨⟨wr.heap.size, 0, none⟩, cc, by rw [length_sb]; rfl, ?_, ?_⟩⟩
            · intro j hj
              refine ⟨_, _, rfl, by simp, ?_⟩
              rw [Nat.zero_add]
              show (wr.alloc (Obj.cells X 5)).cell? _ = _
              rw [World.cell?_alloc_at _ _ _ _ rfl]
              exact HX.out j hj
            · exact (HB.out.alloc HB.out.size _).drew
end Go.Proofs.Qxb6601935a
