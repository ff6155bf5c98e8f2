/-
  The walk of tb1ReplaceModel: the two passes pick the rule that the one pass picks.
-/
import Derived.Test.Qxb6601935aRepl
import Derived.Test.Qxb6601935aVow
namespace Go.Proofs.Qxb6601935a
open Go.RowKit
set_option linter.unusedVariables false
attribute [local go_sem] setCell_drewN alloc_drewN

/-- The greatest length of a suffix that the word ends with, among the first i rules; -1 where there is none. -/
def longTo (zs : List Int) (rs : RL) : Nat → Int
  | 0 => -1
  | i + 1 => if endsB zs (sb (sufAt rs i)) && decide (longTo zs rs i < ((sufAt rs i).size : Int)) then ((sufAt rs i).size : Int) else longTo zs rs i
theorem long_pick (zs : List Int) (rs : RL) : ∀ i, (pickTo zs rs i < 0 ∧ longTo zs rs i = -1 ∧ ∀ j, j < i → endsB zs (sb (sufAt rs j)) = false) ∨
    ∃ q : Nat, pickTo zs rs i = (q : Int) ∧ q < i ∧ longTo zs rs i = ((sufAt rs q).size : Int) ∧ endsB zs (sb (sufAt rs q)) = true ∧ (∀ j, j < q → endsB zs (sb (sufAt rs j)) = true → (sufAt rs j).size < (sufAt rs q).size) ∧ ∀ j, j < i → endsB zs (sb (sufAt rs j)) = true → (sufAt rs j).size ≤ (sufAt rs q).size
  | 0 => .inl ⟨by simp [pickTo], by simp [longTo], fun j h => by omega⟩
  | i + 1 => by
    have ep : pickTo zs rs (i + 1) = if endsB zs (sb (sufAt rs i)) && (decide (pickTo zs rs i < 0) || decide ((sufAt rs (pickTo zs rs i).toNat).size < (sufAt rs i).size)) then (i : Int) else pickTo zs rs i := rfl
    have el : longTo zs rs (i + 1) = if endsB zs (sb (sufAt rs i)) && decide (longTo zs rs i < ((sufAt rs i).size : Int)) then ((sufAt rs i).size : Int) else longTo zs rs i := rfl
    rw [ep, el]
    rcases long_pick zs rs i with ⟨h1, h2, h3⟩ | ⟨q, h1, h2, h3, h4, h5, h6⟩
    · cases he : endsB zs (sb (sufAt rs i)) with
      | false =>
        left
        refine ⟨by simpa using h1, by simpa using h2, fun j hj => ?_⟩
        rcases Nat.lt_or_ge j i with h | h
        · exact h3 j h
        · obtain rfl : j = i := by omega
          exact he
      | true =>
        right
        have e1 : decide (longTo zs rs i < ((sufAt rs i).size : Int)) = true := by simp; omega
        refine ⟨i, by simp [h1], by omega, by rw [e1]; simp, he, fun j hj hj2 => ?_, fun j hj hj2 => ?_⟩
        · rw [h3 j hj] at hj2
          cases hj2
        · rcases Nat.lt_or_ge j i with h | h
          · rw [h3 j h] at hj2
            cases hj2
          · obtain rfl : j = i := by omega
            exact Nat.le_refl _
    · rw [h1, h3, Int.toNat_natCast]
      cases he : endsB zs (sb (sufAt rs i)) with
      | false =>
        right
        refine ⟨q, by simp, by omega, by simp, h4, h5, fun j hj hj2 => ?_⟩
        rcases Nat.lt_or_ge j i with h | h
        · exact h6 j h hj2
        · obtain rfl : j = i := by omega
          rw [he] at hj2
          cases hj2
      | true =>
        by_cases hlt : (sufAt rs q).size < (sufAt rs i).size
        · right
          refine ⟨i, by simp [hlt], by omega, by simp [hlt], he, fun j hj hj2 => ?_, fun j hj hj2 => ?_⟩
          · have := h6 j hj hj2
            omega
          · rcases Nat.lt_or_ge j i with h | h
            · have := h6 j h hj2
              omega
            · obtain rfl : j = i := by omega
              exact Nat.le_refl _
        · right
          refine ⟨q, ?_, by omega, by simp [hlt], h4, h5, fun j hj hj2 => ?_⟩
          · have e1 : decide ((q : Int) < 0) = false := by simp
            simp [hlt, e1]
          · rcases Nat.lt_or_ge j i with h | h
            · exact h6 j h hj2
            · obtain rfl : j = i := by omega
              omega
theorem longTo_lo (zs : List Int) (rs : RL) (i : Nat) : -1 ≤ longTo zs rs i := by
  rcases long_pick zs rs i with ⟨_, h, _⟩ | ⟨q, _, _, h, _⟩ <;> omega

/-- What the word becomes. -/
def replOf (zs : List Int) (rs : RL) (least : Int) : List Int :=
  if pickTo zs rs rs.length < 0 ∨ (meas (zs.take (zs.length - (sufAt rs (pickTo zs rs rs.length).toNat).size)) : Int) ≤ least then zs
  else zs.take (zs.length - (sufAt rs (pickTo zs rs rs.length).toNat).size) ++ sb (withAt rs (pickTo zs rs rs.length).toNat)
/-- What tb1ReplaceModel hands back: that, in memory of its own. -/
def ModOut (w : World) (L : List Int) (e : Ending) (w' : World) : Prop := ∃ g : Nat, e = .returned (.slice (some ⟨g, 0, none⟩) L.length L.length) ∧ Row w' (some ⟨g, 0, none⟩) L ∧ w.heap.size ≤ g ∧ Below w.heap.size w w'

theorem ModOut.mk {w : World} {L : List Int} {e : Ending} {w' : World} (g : Nat) (M : List Int) (l : Nat) (hM : L = M) (hl : M.length = l) (he : e = .returned (.slice (some ⟨g, 0, none⟩) l l)) (hr : Row w' (some ⟨g, 0, none⟩) M) (hg : w.heap.size ≤ g) (hb : Below w.heap.size w w') : ModOut w L e w' := by
  subst hM; subst hl
  exact ⟨g, he, hr, hg, hb⟩
/-- A row in the last block, draws besides. -/
theorem Row.last (w : World) (zs : List Int) (nq g : Nat) (hg : g = w.heap.size) : Row ((w.alloc (.cells (bs zs) 5)).drewN nq) (some ⟨g, 0, none⟩) zs := by
  subst hg
  exact Row.below (Row.new w zs) (below_drewN (Below.refl _ _) _)

set_option maxHeartbeats 2000000 in
theorem two_any (g n : Nat) (zs : List Int) (hl : zs.length = n) (hn : n ≤ 4096) (h1 : 1 ≤ n) (hlo : 97 ≤ nth zs (n - 1)) (hhi : nth zs (n - 1) ≤ 122)
    (arr : Array Value) (T : Nat → RL) (least : Int) (w : World) (ha : Row w (some ⟨g, 0, none⟩) zs) (hS : SetAt w arr T) (hsm : ∀ k, k < 26 → Small (T k)) :
    Calls Try.prog 27 #[.slice (some ⟨g, 0, none⟩) n n, .agg arr, .int .i64 least] w (ModOut w (replOf zs (T (nth zs (n - 1) - 97).toNat) least)) := by
  obtain ⟨k, hk⟩ : ∃ k : Nat, nth zs (n - 1) = (k : Int) + 97 := ⟨(nth zs (n - 1) - 97).toNat, by omega⟩
  have hk26 : k < 26 := by omega
  have ek : (nth zs (n - 1) - 97).toNat = k := by omega
  rw [ek]
  obtain ⟨a, c, o1, hnil, hR⟩ := hS.2 k hk26
  have hsm' := hsm k hk26
  obtain ⟨b', off', hx, hgw, hc⟩ := ha (n - 1) (by omega)
  simp only [Option.some.injEq, Addr.mk.injEq, and_true] at hx
  obtain ⟨rfl, rfl⟩ := hx
  rw [Nat.zero_add, hk] at hc
  have hnb : (0 : Int) ≤ (n : Int) - 1 := by omega
  have hk26' : (k : Int) < 26 := by omega
  generalize hrs : T k = rs at *
  have HA : Hid (Row w (some ⟨g, 0, none⟩) zs) := ha
  have HR : Hid (Rules w a rs) := hR
  have HSM : Hid (Small rs) := hsm'
  clear hS hsm ha hR hsm' hrs hk hlo hhi ek hnil
  have hlen := HSM.out.1
  have HB0 : Hid (Below w.heap.size w (w.alloc (.cells arr 29))) := below_new (Below.refl _ _) _
  have E : ∀ (s : ByteArray) (W : World), s.size ≤ 1048576 → Below w.heap.size w W → Calls Try.prog 21 #[.slice (some ⟨g, 0, none⟩) n n, .string s] W fun e w' => e = .returned (.bool (endsB zs (sb s))) ∧ ∃ nq, w' = W.drewN nq := fun s W hs hW => ends_any _ n n zs hl (by omega) s hs W (Row.below HA.out hW)
  have HE : Hid _ := E
  clear E
  go_enter Try.func27, Try.ntmps27
  go_wp2
  go_loopw [9, 10] (fun l i wr => ∃ j : Nat, j ≤ rs.length ∧ i = .int .i64 j ∧ l = .int .i64 (longTo zs rs j) ∧ ∃ nq, wr = (w.alloc (.cells arr 29)).drewN nq) (fun _ i _ => rs.length - (intOf i).toNat)
  case atStart => exact ⟨0, by omega, rfl, rfl, 0, rfl⟩
  case round =>
    obtain ⟨j, hj, rfl, rfl, nq, rfl⟩ := hrel
    have hps : longTo zs rs (j + 1) = if endsB zs (sb (sufAt rs j)) && decide (longTo zs rs j < ((sufAt rs j).size : Int)) then ((sufAt rs j).size : Int) else longTo zs rs j := rfl
    have HPS : Hid _ := hps
    clear hps
    by_cases hjl : j < rs.length
    · have hR' := Rules.below HR.out HB0.out
      obtain ⟨b, off, rfl, hb, g1, g2⟩ := hR' j hjl
      obtain ⟨z1, z2⟩ := HSM.out.2 j hjl
      have hjl' : (j : Int) < (rs.length : Int) := by omega
      generalize hp : longTo zs rs j = p at *
      generalize hs1 : sufAt rs j = s1 at *
      clear hp hs1 hR'
      have hcall := HE.out s1 ((w.alloc (.cells arr 29)).drewN nq) z1 (below_drewN HB0.out _)
      cases he : endsB zs (sb s1) with
      | false =>
        have hn1 : longTo zs rs (j + 1) = p := by rw [HPS.out, he]; simp
        have HN : Hid _ := hn1
        rw [he] at hcall
        have HC : Hid _ := hcall
        clear hcall hn1 he
        go_wp2_with fail
        refine Calls.mono HC.out ?_
        rintro e w' ⟨rfl, nq2, rfl⟩
        go_wp2_with fail
        go_roundw
        case rel => exact ⟨j + 1, by omega, by go_num, by rw [HN.out], _, rfl⟩
        case measure => simp [intOf]; omega
      | true =>
        rw [he] at hcall
        have HC : Hid _ := hcall
        clear hcall
        by_cases hlt : p < (s1.size : Int)
        · have hn1 : longTo zs rs (j + 1) = (s1.size : Int) := by rw [HPS.out, he]; simp [hlt]
          have HN : Hid _ := hn1
          clear hn1 he
          go_wp2_with fail
          refine Calls.mono HC.out ?_
          rintro e w' ⟨rfl, nq2, rfl⟩
          go_wp2_with fail
          go_roundw
          case rel => exact ⟨j + 1, by omega, by go_num, by rw [HN.out], _, rfl⟩
          case measure => simp [intOf]; omega
        · have hn1 : longTo zs rs (j + 1) = p := by rw [HPS.out, he]; simp [hlt]
          have HN : Hid _ := hn1
          clear hn1 he
          go_wp2_with fail
          refine Calls.mono HC.out ?_
          rintro e w' ⟨rfl, nq2, rfl⟩
          go_wp2_with fail
          go_roundw
          case rel => exact ⟨j + 1, by omega, by go_num, by rw [HN.out], _, rfl⟩
          case measure => simp [intOf]; omega
    · obtain rfl : j = rs.length := by omega
      clear HPS hjl
      rcases long_pick zs rs rs.length with ⟨q1, q2, _⟩ | ⟨q, q1, q2, q3, q4, q5, _⟩
      · have HL : Hid (replOf zs rs least = zs) := by unfold Hid; rw [replOf, if_pos (.inl q1)]
        rw [q2]
        clear q1 q2
        go_wp2_with fail
        refine (copy_some ⟨g, 0, none⟩ n n zs hl (by omega) _ (Row.below HA.out (below_drewN HB0.out _))).mono ?_
        rintro e w' ⟨rfl, rfl⟩
        go_wp2_with fail
        go_ret
        exact ModOut.mk (w.heap.size + 1) zs n HL.out hl rfl (Row.last (w.alloc (.cells arr 29)) zs _ _ (by simp)) (by omega) (by repeat (first | with_reducible exact HB0.out | with_reducible refine below_drewN ?_ _ | with_reducible refine Below.alloc ?_ (by simp) _))
      · have hR' := Rules.below HR.out HB0.out
        obtain ⟨b, off, rfl, hb, g1, g2⟩ := hR' q q2
        obtain ⟨z1, z2⟩ := HSM.out.2 q q2
        have HR2 : Hid (∀ p, p < rs.length → (w.alloc (.cells arr 29)).cell? ⟨b, off + p * 2, none⟩ = some (.string (sufAt rs p))) := by
          intro p hp
          obtain ⟨b2, off2, hx, _, g3, _⟩ := hR' p hp
          simp only [Option.some.injEq, Addr.mk.injEq, and_true] at hx
          obtain ⟨rfl, rfl⟩ := hx
          exact g3
        have hsz : (sufAt rs q).size ≤ n := by
          have : (sb (sufAt rs q)).length ≤ zs.length := (by simpa [endsB] using q4 : _ ∧ _).1
          rw [length_sb] at this; omega
        have hF : replOf zs rs least = if (meas (zs.take (n - (sufAt rs q).size)) : Int) ≤ least then zs else zs.take (n - (sufAt rs q).size) ++ sb (withAt rs q) := by
          rw [replOf, q1, Int.toNat_natCast, hl]
          by_cases h : (meas (zs.take (n - (sufAt rs q).size)) : Int) ≤ least
          · rw [if_pos (.inr h), if_pos h]
          · rw [if_neg (by omega), if_neg h]
        rw [q3]
        have HF : Hid _ := hF
        have Q5 : Hid _ := q5
        have Q4 : Hid _ := q4
        clear hF q5 q4 q3 q1 hR'
        generalize hs1 : sufAt rs q = s1 at *
        generalize hs2 : withAt rs q = s2 at *
        have HS1 : Hid _ := hs1
        clear hs1 hs2
        go_wp2_with fail
        go_loopw [11] (fun i wr => ∃ (p nq : Nat), p ≤ q ∧ i = .int .i64 p ∧ wr = (w.alloc (.cells arr 29)).drewN nq) (fun i _ => q - (intOf i).toNat)
        case atStart => exact ⟨0, nq, by omega, rfl, rfl⟩
        case round =>
          obtain ⟨p, nq', hp, rfl, rfl⟩ := hrel
          have g3 := HR2.out p (by omega)
          have z3 := (HSM.out.2 p (by omega)).1
          have hpl : (p : Int) < (rs.length : Int) := by omega
          by_cases hpq : p < q
          · have hq5 := Q5.out p hpq
            generalize sufAt rs p = s3 at *
            by_cases heq : s3.size = s1.size
            · have hnot : endsB zs (sb s3) = false := by
                cases h : endsB zs (sb s3) with
                | false => rfl
                | true => have := hq5 h; omega
              have hcall := HE.out s3 ((w.alloc (.cells arr 29)).drewN nq') z3 (below_drewN HB0.out _)
              rw [hnot] at hcall
              have HC : Hid _ := hcall
              have heq' : ((s3.size : Int) == (s1.size : Int)) = true := by simp; omega
              clear hcall hnot hq5 heq
              go_wp2_with fail
              refine Calls.mono HC.out ?_
              rintro e w' ⟨rfl, nq2, rfl⟩
              go_wp2_with fail
              go_roundw
              case rel => exact ⟨p + 1, _, by omega, by go_num, rfl⟩
              case measure => simp [intOf]; omega
            · have heq' : ((s3.size : Int) == (s1.size : Int)) = false := by simp; omega
              clear hq5 heq
              go_wp2_with fail
              go_roundw
              case rel => exact ⟨p + 1, _, by omega, by go_num, rfl⟩
              case measure => simp [intOf]; omega
          · obtain rfl : p = q := by omega
            rw [HS1.out] at g3
            have hcall := HE.out s1 ((w.alloc (.cells arr 29)).drewN nq') z1 (below_drewN HB0.out _)
            rw [Q4.out] at hcall
            have HC : Hid _ := hcall
            have heq' : ((s1.size : Int) == (s1.size : Int)) = true := by simp
            clear hcall hpq z3
            go_wp2_with fail
            refine Calls.mono HC.out ?_
            rintro e w' ⟨rfl, nq2, rfl⟩
            go_wp2_with fail
            refine (m_any (some ⟨g, 0, none⟩) (n - s1.size) n (zs.take (n - s1.size)) (by simp; omega) (by omega) _ (Row.take (Row.below HA.out (below_drewN HB0.out _)) _)).mono ?_
            rintro e w' ⟨rfl, rfl⟩
            generalize (vfill (zs.take (n - s1.size)) (n - s1.size) (n - s1.size)) = V
            by_cases hms : (meas (zs.take (n - s1.size)) : Int) ≤ least
            · have HL : Hid (replOf zs rs least = zs) := by unfold Hid; rw [HF.out, if_pos hms]
              generalize (meas (zs.take (n - s1.size)) : Int) = mm at hms
              go_wp2_with fail
              refine (copy_some ⟨g, 0, none⟩ n n zs hl (by omega) _ (Row.below HA.out (by repeat (first | with_reducible exact HB0.out | with_reducible refine below_drewN ?_ _ | with_reducible refine Below.alloc ?_ (by simp) _)))).mono ?_
              rintro e w' ⟨rfl, rfl⟩
              go_wp2_with fail
              go_ret
              exact ModOut.mk (w.heap.size + 1 + 1) zs n HL.out hl rfl (Row.last ((w.alloc (.cells arr 29)).alloc (.cells V 4)) zs _ _ (by simp)) (by omega) (by repeat (first | with_reducible exact HB0.out | with_reducible refine below_drewN ?_ _ | with_reducible refine Below.alloc ?_ (by simp <;> omega) _))
            · have HL : Hid (replOf zs rs least = zs.take (n - s1.size) ++ sb s2) := by unfold Hid; rw [HF.out, if_neg hms]
              generalize (meas (zs.take (n - s1.size)) : Int) = mm at hms
              have g2' : ((w.alloc (.cells arr 29)).alloc (.cells V 4)).cell? ⟨b, off + p * 2 + 1, none⟩ = some (.string s2) := by rw [World.cell?_alloc_past _ _ _ hb]; exact g2
              have EN : Hid ((n : Int) - (s1.size : Int) = ((n - s1.size : Nat) : Int)) := by unfold Hid; omega
              have hjl : (zs.take (n - s1.size) ++ sb s2).length = n - s1.size + s2.size := by rw [List.length_append, length_sb, List.length_take]; omega
              have HJL : Hid _ := hjl
              clear g2 hjl
              go_wp2_with fail
              rw [EN.out]
              refine (join_any (some ⟨g, 0, none⟩) n n (n - s1.size) zs hl (by omega) (by omega) s2 z2 _ (Row.below HA.out (by repeat (first | with_reducible exact HB0.out | with_reducible refine below_drewN ?_ _ | with_reducible refine Below.alloc ?_ (by simp <;> omega) _)))).mono ?_
              rintro e w' ⟨rfl, rfl⟩
              go_wp2_with fail
              go_ret
              exact ModOut.mk (w.heap.size + 1 + 1) (zs.take (n - s1.size) ++ sb s2) (n - s1.size + s2.size) HL.out HJL.out rfl (Row.last ((w.alloc (.cells arr 29)).alloc (.cells V 4)) _ _ _ (by simp)) (by omega) (by repeat (first | with_reducible exact HB0.out | with_reducible refine below_drewN ?_ _ | with_reducible refine Below.alloc ?_ (by simp <;> omega) _))
end Go.Proofs.Qxb6601935a
