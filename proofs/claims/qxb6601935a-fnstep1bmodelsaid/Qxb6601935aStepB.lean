/-
  The walk of step1b: what it makes of the word.
-/
import Derived.Test.Qxb6601935aRepl
import Derived.Test.Qxb6601935aShape
namespace Go.Proofs.Qxb6601935a
open Go.RowKit
set_option linter.unusedVariables false

def EED : ByteArray := ⟨#[101, 101, 100]⟩
def ED : ByteArray := ⟨#[101, 100]⟩
def ING : ByteArray := ⟨#[105, 110, 103]⟩
def AT : ByteArray := ⟨#[97, 116]⟩
def BL : ByteArray := ⟨#[98, 108]⟩
def IZ : ByteArray := ⟨#[105, 122]⟩
/-- What becomes of the word zs whose stem is s. -/
def stemB (s zs : List Int) : List Int :=
  if !hasV s then zs
  else if endsB s (sb AT) || endsB s (sb BL) || endsB s (sb IZ) then s ++ [101]
  else if dblB s then (if nth s (s.length - 1) = 108 ∨ nth s (s.length - 1) = 115 ∨ nth s (s.length - 1) = 122 then s else s.take (s.length - 1))
  else if meas s == 1 && shortB s then s ++ [101]
  else s
/-- What step 1b makes of a word. -/
def s1b (zs : List Int) : List Int :=
  if endsB zs (sb EED) then (if 0 < meas (zs.take (zs.length - 3)) then zs.take (zs.length - 1) else zs)
  else if endsB zs (sb ED) then stemB (zs.take (zs.length - 2)) zs
  else if endsB zs (sb ING) then stemB (zs.take (zs.length - 3)) zs
  else zs

/-- What step1b hands back: the first letters of the word's own memory. -/
def S1Out (w : World) (g n : Nat) (zs L : List Int) (e : Ending) (w' : World) : Prop :=
  e = .returned (.slice (some ⟨g, 0, none⟩) L.length n) ∧ w'.heap[g]? = some (.cells (bs (L ++ zs.drop L.length)) 5) ∧ But g w w' ∧ L.length ≤ n
theorem S1Out.pre {w : World} {g n : Nat} {zs L : List Int} {m : Nat} {w' : World} {e : Ending} (hg : w.heap[g]? = some (.cells (bs zs) 5)) (hl : zs.length = n) (hm : m ≤ n) (hL : L = zs.take m) (hw : ∃ nq, w' = w.drewN nq)
    (he : e = .returned (.slice (some ⟨g, 0, none⟩) m n)) : S1Out w g n zs L e w' := by
  obtain ⟨nq, rfl⟩ := hw
  have e1 : (zs.take m).length = m := by rw [List.length_take]; omega
  subst hL
  refine ⟨by rw [e1]; exact he, ?_, But.of_below (below_drewN (Below.refl _ _) _), by rw [e1]; exact hm⟩
  rw [e1, List.take_append_drop]
  exact hg
def appE (zs : List Int) (m : Nat) : List Int := zs.take m ++ [101] ++ zs.drop (m + 1)
theorem S1Out.app {w : World} {g n : Nat} {zs L : List Int} {m : Nat} {W w' : World} {e : Ending} {o : Obj} (hg : w.heap[g]? = some (.cells (bs zs) 5)) (hl : zs.length = n) (hm : m + 1 ≤ n) (hL : L = zs.take m ++ [101]) (hW : ∃ nq, W = w.drewN nq)
    (hw : w' = (W.alloc o).setRow g (bs (appE zs m))) (he : e = .returned (.slice (some ⟨g, 0, none⟩) (m + 1) n)) : S1Out w g n zs L e w' := by
  obtain ⟨nq, rfl⟩ := hW
  have e1 : L.length = m + 1 := by rw [hL, List.length_append, List.length_take]; simp; omega
  have hgl : g < w.heap.size := (Array.getElem?_eq_some_iff.1 hg).1
  refine ⟨by rw [e1]; exact he, ?_, ?_, by omega⟩
  · rw [e1, hL, hw]
    exact setRow_heap _ g (bs zs) _ 5 _ ((Below.heap_alloc (w.drewN nq) _ _ hgl).trans hg)
  · rw [hw]
    exact (But.of_below (below_new (below_drewN (Below.refl _ _) _) _)).setRow _
/-- 'append(s, 'e')' where there is room. -/
theorem app_e (W : World) (g m n : Nat) (zs : List Int) (hg : W.heap[g]? = some (.cells (bs zs) 5)) (hl : zs.length = n) (hm : m + 1 ≤ n) :
    (Builtin.append_ #[38, 38] 38 #[.slice (some ⟨g, 0, none⟩) m n, .slice (some ⟨W.heap.size, 0, none⟩) 1 1]).run Try.prog (W.alloc (.cells #[.int .u8 101] 5)) =
      .ok (.slice (some ⟨g, 0, none⟩) (m + 1) n) ((W.alloc (.cells #[.int .u8 101] 5)).setRow g (bs (appE zs m))) := by
  obtain ⟨i0', hi, hi1, hi2, hi3⟩ := info_parts Try.info5
  have hgl : g < W.heap.size := (Array.getElem?_eq_some_iff.1 hg).1
  have := run_append_room (P := Try.prog) (W.alloc (.cells #[.int .u8 101] 5)) 38 38 5 i0' Try.underlying38 hi g m n (bs zs) (by rw [Below.heap_alloc _ _ _ hgl]; exact hg) ⟨W.heap.size, 0, none⟩ 1 1 [.int .u8 101] (by rw [hi2]; rfl)
    (by
      intro j u hj
      have : j = 0 := by
        have := (List.getElem?_eq_some_iff.1 hj).1
        simpa using this
      subst this
      simp only [List.getElem?_cons_zero, Option.some.injEq] at hj
      subst hj
      rw [Addr.add_lit, Nat.zero_add, World.cell?_alloc_at _ _ _ _ rfl]
      rfl)
    (by intro u hu; simp at hu; subst hu; rfl) hm (by rw [bs_size, hi2]; simp; omega)
  rw [this, hi2]
  congr 2
  apply Array.ext'
  simp [bs, appE]

theorem take_take_pred (zs : List Int) (m : Nat) (hm : m ≤ zs.length) : (zs.take m).take ((zs.take m).length - 1) = zs.take (m - 1) := by
  have e : (zs.take m).length = m := by rw [List.length_take]; omega
  rw [e, List.take_take]
  congr 1
  omega

set_option maxHeartbeats 2000000 in
theorem step1b_eed (g n : Nat) (zs : List Int) (hl : zs.length = n) (hn : n ≤ 4096) (hr : ∀ j, 0 ≤ nth zs j ∧ nth zs j ≤ 255) (w : World) (hg : w.heap[g]? = some (.cells (bs zs) 5)) (h1 : endsB zs (sb EED) = true) :
    Calls Try.prog 35 #[.slice (some ⟨g, 0, none⟩) n n] w (S1Out w g n zs (s1b zs)) := by
  have ha := Row.own hg
  have h3 : 3 ≤ n := by
    have : (sb EED).length ≤ zs.length := (by simpa [endsB] using h1 : _ ∧ _).1
    rw [← hl]; exact this
  obtain ⟨m, hma, hmb⟩ : ∃ m, m + 3 ≤ n ∧ n ≤ m + 3 := ⟨n - 3, by omega, by omega⟩
  have hcut := cut_yes g 0 n n zs hl (by omega) (Nat.le_refl _) hr EED (by decide) w ha h1
  have e1 : n - EED.size = m := by show n - 3 = m; omega
  rw [e1] at hcut
  have hmeas := meas_any g 0 m n (zs.take m) (by simp; omega) (by omega) w (Row.take ha _)
  have hL : s1b zs = if 0 < meas (zs.take m) then zs.take (n - 1) else zs := by
    have e2 : zs.length - 3 = m := by omega
    rw [s1b, h1, if_pos rfl, e2, hl]
  have HL : Hid _ := hL
  have HC : Hid _ := hcut
  have HM : Hid _ := hmeas
  have HG : Hid _ := hg
  clear hL hcut hmeas hg ha hr h1 e1
  go_enter Try.func35, Try.ntmps35
  go_wp2_with fail
  refine Calls.mono HC.out ?_
  rintro e w' ⟨rfl, rfl⟩
  go_wp2_with fail
  refine Calls.mono HM.out ?_
  rintro e w' ⟨rfl, rfl⟩
  by_cases hp : 0 < meas (zs.take m)
  · have HF : Hid (s1b zs = zs.take (n - 1)) := by unfold Hid; rw [HL.out, if_pos hp]
    have hp' : (0 : Int) < (meas (zs.take m) : Int) := by omega
    clear hp
    generalize (meas (zs.take m) : Int) = mm at hp'
    go_wp2_with fail
    go_ret
    exact S1Out.pre HG.out hl (by omega) HF.out ⟨0, rfl⟩ rfl
  · have HF : Hid (s1b zs = zs.take n) := by unfold Hid; rw [HL.out, if_neg hp, ← hl, List.take_length]
    have hp' : ¬ (0 : Int) < (meas (zs.take m) : Int) := by omega
    clear hp
    generalize (meas (zs.take m) : Int) = mm at hp'
    go_wp2_with fail
    go_ret
    exact S1Out.pre HG.out hl (by omega) HF.out ⟨0, rfl⟩ rfl

set_option maxHeartbeats 2000000 in
theorem step1b_none (g n : Nat) (zs : List Int) (hl : zs.length = n) (hn : n ≤ 4096) (hr : ∀ j, 0 ≤ nth zs j ∧ nth zs j ≤ 255) (w : World) (hg : w.heap[g]? = some (.cells (bs zs) 5)) (h1 : endsB zs (sb EED) = false) (h2 : endsB zs (sb ED) = false) (h3 : endsB zs (sb ING) = false) :
    Calls Try.prog 35 #[.slice (some ⟨g, 0, none⟩) n n] w (S1Out w g n zs (s1b zs)) := by
  have ha := Row.own hg
  have HC1 : Hid _ := cut_no g 0 n n zs hl (by omega) (Nat.le_refl _) hr EED (by decide) w ha h1
  have HC2 : Hid _ := cut_no g 0 n n zs hl (by omega) (Nat.le_refl _) hr ED (by decide) w ha h2
  have HC3 : Hid _ := cut_no g 0 n n zs hl (by omega) (Nat.le_refl _) hr ING (by decide) w ha h3
  have HF : Hid (s1b zs = zs.take n) := by unfold Hid; rw [s1b, h1, h2, h3, ← hl, List.take_length]; rfl
  have HG : Hid _ := hg
  clear hg ha hr h1 h2 h3
  go_enter Try.func35, Try.ntmps35
  go_wp2_with fail
  refine Calls.mono HC1.out ?_
  rintro e w' ⟨rfl, rfl⟩
  go_wp2_with fail
  refine Calls.mono HC2.out ?_
  rintro e w' ⟨rfl, rfl⟩
  go_wp2_with fail
  refine Calls.mono HC3.out ?_
  rintro e w' ⟨rfl, rfl⟩
  go_wp2_with fail
  go_ret
  exact S1Out.pre HG.out hl (Nat.le_refl n) HF.out ⟨0, rfl⟩ rfl

set_option maxHeartbeats 4000000 in
theorem step1b_ed (g n : Nat) (zs : List Int) (hl : zs.length = n) (hn : n ≤ 4096) (hr : ∀ j, 0 ≤ nth zs j ∧ nth zs j ≤ 255) (w : World) (hg : w.heap[g]? = some (.cells (bs zs) 5)) (h1 : endsB zs (sb EED) = false) (h2 : endsB zs (sb ED) = true) :
    Calls Try.prog 35 #[.slice (some ⟨g, 0, none⟩) n n] w (S1Out w g n zs (s1b zs)) := by
  have ha := Row.own hg
  have hk : 2 ≤ n := by
    have : (sb ED).length ≤ zs.length := (by simpa [endsB] using h2 : _ ∧ _).1
    rw [← hl]; exact this
  obtain ⟨m, hma, hmb⟩ : ∃ m, m + 2 ≤ n ∧ n ≤ m + 2 := ⟨n - 2, by omega, by omega⟩
  have hcut := cut_yes g 0 n n zs hl (by omega) (Nat.le_refl _) hr ED (by decide) w ha h2
  have e1 : n - ED.size = m := by show n - 2 = m; omega
  rw [e1] at hcut
  have HC1 : Hid _ := cut_no g 0 n n zs hl (by omega) (Nat.le_refl _) hr EED (by decide) w ha h1
  have HC2 : Hid _ := hcut
  clear hcut e1
  have e2 : zs.length - 2 = m := by omega
  have HL : Hid (s1b zs = stemB (zs.take m) zs) := by unfold Hid; rw [s1b, h1, h2, e2]; rfl
  have HTK : Hid ((zs.take m).take (m - 1) = zs.take (m - 1)) := by unfold Hid; rw [List.take_take]; congr 1; omega
  obtain ⟨s, hs⟩ : ∃ s, s = zs.take m := ⟨_, rfl⟩
  have hsl : s.length = m := by rw [hs, List.length_take]; omega
  have hRs : Row w (some ⟨g, 0, none⟩) s := by rw [hs]; exact Row.take ha _
  have hrs : ∀ j, 0 ≤ nth s j ∧ nth s j ≤ 255 := by
    intro j
    by_cases hj : j < m
    · rw [hs, nth_take _ _ _ hj]; exact hr j
    · have : nth s j = 0 := by rw [nth, List.getD, List.getElem?_eq_none (by omega)]; rfl
      omega
  rw [← hs] at HL
  have HV : Hid _ := hasv_any g 0 m n s hsl (by omega) w hRs
  have HE : Hid (∀ t : ByteArray, t.size ≤ 1048576 → Calls Try.prog 38 #[.slice (some ⟨g, 0, none⟩) m n, .string t] w fun e w' => e = .returned (.bool (endsB s (sb t))) ∧ w = w') := fun t ht => has_any g 0 m n s hsl (by omega) (by omega) hrs t ht w hRs
  have HD : Hid _ := dbl_any g 0 m n s hsl (by omega) w hRs
  have HM : Hid (∀ nq, Calls Try.prog 40 #[.slice (some ⟨g, 0, none⟩) m n] (w.drewN nq) fun e w' => e = .returned (.int .i64 (meas s : Int)) ∧ w.drewN nq = w') := fun nq => meas_any g 0 m n s hsl (by omega) _ (Row.below hRs (below_drewN (Below.refl _ _) _))
  have HSH : Hid (∀ nq, Calls Try.prog 43 #[.slice (some ⟨g, 0, none⟩) m n] (w.drewN nq) fun e w' => e = .returned (.bool (shortB s)) ∧ w.drewN nq = w') := fun nq => short_any g 0 m n s hsl (by omega) _ (Row.below hRs (below_drewN (Below.refl _ _) _))
  have HG : Hid _ := hg
  have HS : Hid _ := hs
  have HSL : Hid _ := hsl
  have HR : Hid _ := hRs
  clear hg ha hr h1 h2 e2 hs hsl hRs hrs hk
  go_enter Try.func35, Try.ntmps35
  go_wp2_with fail
  refine Calls.mono HC1.out ?_
  rintro e w' ⟨rfl, rfl⟩
  go_wp2_with fail
  refine Calls.mono HC2.out ?_
  rintro e w' ⟨rfl, rfl⟩
  go_wp2_with fail
  refine Calls.mono HV.out ?_
  rintro e w' ⟨rfl, rfl⟩
  cases hv : hasV s with
  | false =>
    have HF : Hid (s1b zs = zs) := by unfold Hid; rw [HL.out, stemB, hv]; rfl
    clear hv
    go_wp2_with fail
    go_ret
    exact S1Out.pre HG.out hl (Nat.le_refl n) (by rw [HF.out, ← hl, List.take_length]) ⟨0, rfl⟩ rfl
  | true =>
  have HL2 : Hid (s1b zs = if endsB s (sb AT) || endsB s (sb BL) || endsB s (sb IZ) then s ++ [101] else if dblB s then (if nth s (s.length - 1) = 108 ∨ nth s (s.length - 1) = 115 ∨ nth s (s.length - 1) = 122 then s else s.take (s.length - 1)) else if meas s == 1 && shortB s then s ++ [101] else s) := by unfold Hid; rw [HL.out, stemB, hv]; rfl
  clear hv HL HV
  go_wp2_with fail
  refine Calls.mono (HE.out AT (by decide)) ?_
  rintro e w' ⟨rfl, rfl⟩
  cases h1 : endsB s (sb AT) with
  | true =>
    have HF : Hid (s1b zs = zs.take m ++ [101]) := by unfold Hid; rw [HL2.out, h1, HS.out]; rfl
    clear h1
    go_wp2_with (at_builtin; refine wpList_append_by rfl (.tmp 50) (.tmp 51) 38 38 rfl _ _ rfl rfl _ _ (app_e _ g m n zs HG.out hl (by omega)) ?_)
    go_ret
    exact S1Out.app HG.out hl (by omega) HF.out ⟨0, rfl⟩ rfl rfl
  | false =>
  go_wp2_with fail
  refine Calls.mono (HE.out BL (by decide)) ?_
  rintro e w' ⟨rfl, rfl⟩
  cases h2 : endsB s (sb BL) with
  | true =>
    have HF : Hid (s1b zs = zs.take m ++ [101]) := by unfold Hid; rw [HL2.out, h1, h2, HS.out]; rfl
    clear h1 h2
    go_wp2_with (at_builtin; refine wpList_append_by rfl (.tmp 50) (.tmp 51) 38 38 rfl _ _ rfl rfl _ _ (app_e _ g m n zs HG.out hl (by omega)) ?_)
    go_ret
    exact S1Out.app HG.out hl (by omega) HF.out ⟨0, rfl⟩ rfl rfl
  | false =>
  go_wp2_with fail
  refine Calls.mono (HE.out IZ (by decide)) ?_
  rintro e w' ⟨rfl, rfl⟩
  cases h3 : endsB s (sb IZ) with
  | true =>
    have HF : Hid (s1b zs = zs.take m ++ [101]) := by unfold Hid; rw [HL2.out, h1, h2, h3, HS.out]; rfl
    clear h1 h2 h3
    go_wp2_with (at_builtin; refine wpList_append_by rfl (.tmp 50) (.tmp 51) 38 38 rfl _ _ rfl rfl _ _ (app_e _ g m n zs HG.out hl (by omega)) ?_)
    go_ret
    exact S1Out.app HG.out hl (by omega) HF.out ⟨0, rfl⟩ rfl rfl
  | false =>
  have HL3 : Hid (s1b zs = if dblB s then (if nth s (s.length - 1) = 108 ∨ nth s (s.length - 1) = 115 ∨ nth s (s.length - 1) = 122 then s else s.take (s.length - 1)) else if meas s == 1 && shortB s then s ++ [101] else s) := by unfold Hid; rw [HL2.out, h1, h2, h3]; rfl
  clear h1 h2 h3 HL2 HE
  go_wp2_with fail
  refine Calls.mono HD.out ?_
  rintro e w' ⟨rfl, nq, rfl⟩
  cases hd : dblB s with
  | true =>
    have hm2 : 2 ≤ m := by
      have : decide (2 ≤ s.length) = true := by simp only [dblB, Bool.and_eq_true] at hd; exact hd.1.1
      simpa [HSL.out] using this
    obtain ⟨b', off', hx, hgw, hc⟩ := HR.out (m - 1) (by rw [HSL.out]; omega)
    simp only [Option.some.injEq, Addr.mk.injEq, and_true] at hx
    obtain ⟨rfl, rfl⟩ := hx
    rw [Nat.zero_add] at hc
    have HL4 : Hid (s1b zs = if nth s (m - 1) = 108 ∨ nth s (m - 1) = 115 ∨ nth s (m - 1) = 122 then zs.take m else zs.take (m - 1)) := by unfold Hid; rw [HL3.out, hd, if_pos rfl, HSL.out, HS.out, ← HTK.out]
    have hnb : (0 : Int) ≤ (m : Int) - 1 := by omega
    have hnb2 : (m : Int) - 1 < (m : Int) := by omega
    have en : Hid ((m : Int) - 1 = ((m - 1 : Nat) : Int)) := by unfold Hid; omega
    clear hd HL3
    generalize nth s (m - 1) = v at *
    by_cases hv : v = 108 ∨ v = 115 ∨ v = 122
    · have HF : Hid (s1b zs = zs.take m) := by unfold Hid; rw [HL4.out, if_pos hv]
      rcases hv with rfl | rfl | rfl <;> (
        go_wp2_with fail
        go_ret
        exact S1Out.pre HG.out hl (by omega) HF.out ⟨_, rfl⟩ rfl)
    · have HF : Hid (s1b zs = zs.take (m - 1)) := by unfold Hid; rw [HL4.out, if_neg hv]
      have n1 : (v != 108) = true := by simp; omega
      have n2 : (v != 115) = true := by simp; omega
      have n3 : (v != 122) = true := by simp; omega
      clear hv
      go_wp2_with fail
      go_ret
      exact S1Out.pre HG.out hl (by omega) HF.out ⟨_, rfl⟩ rfl
  | false =>
  have HL4 : Hid (s1b zs = if meas s == 1 && shortB s then zs.take m ++ [101] else zs.take m) := by unfold Hid; rw [HL3.out, hd, HS.out]; rfl
  clear hd HL3 HD
  go_wp2_with fail
  refine Calls.mono (HM.out _) ?_
  rintro e w' ⟨rfl, rfl⟩
  by_cases hm1 : meas s = 1
  · have hm1' : ((meas s : Int) == 1) = true := by rw [hm1]; rfl
    have hm2' : (meas s == 1) = true := by rw [hm1]; rfl
    have HM2 : Hid _ := hm2'
    clear hm1 hm2'
    generalize (meas s : Int) = mm at hm1'
    go_wp2_with fail
    refine Calls.mono (HSH.out _) ?_
    rintro e w' ⟨rfl, rfl⟩
    cases hsh : shortB s with
    | true =>
      have HF : Hid (s1b zs = zs.take m ++ [101]) := by unfold Hid; rw [HL4.out, HM2.out, hsh]; rfl
      clear hsh
      go_wp2_with (at_builtin; refine wpList_append_by rfl (.tmp 85) (.tmp 86) 38 38 rfl _ _ rfl rfl _ _ (app_e (w.drewN nq) g m n zs HG.out hl (by omega)) ?_)
      go_ret
      exact S1Out.app HG.out hl (by omega) HF.out ⟨_, rfl⟩ rfl rfl
    | false =>
      have HF : Hid (s1b zs = zs.take m) := by unfold Hid; rw [HL4.out, HM2.out, hsh]; rfl
      clear hsh
      go_wp2_with fail
      go_ret
      exact S1Out.pre HG.out hl (by omega) HF.out ⟨_, rfl⟩ rfl
  · have hm1' : ((meas s : Int) == 1) = false := by simp; omega
    have HF : Hid (s1b zs = zs.take m) := by
      have : (meas s == 1) = false := by simpa using hm1
      unfold Hid; rw [HL4.out, this]; rfl
    clear hm1
    generalize (meas s : Int) = mm at hm1'
    go_wp2_with fail
    go_ret
    exact S1Out.pre HG.out hl (by omega) HF.out ⟨_, rfl⟩ rfl

set_option maxHeartbeats 4000000 in
theorem step1b_ing (g n : Nat) (zs : List Int) (hl : zs.length = n) (hn : n ≤ 4096) (hr : ∀ j, 0 ≤ nth zs j ∧ nth zs j ≤ 255) (w : World) (hg : w.heap[g]? = some (.cells (bs zs) 5)) (h1 : endsB zs (sb EED) = false) (h2 : endsB zs (sb ED) = false) (h3 : endsB zs (sb ING) = true) :
    Calls Try.prog 35 #[.slice (some ⟨g, 0, none⟩) n n] w (S1Out w g n zs (s1b zs)) := by
  have ha := Row.own hg
  have hk : 3 ≤ n := by
    have : (sb ING).length ≤ zs.length := (by simpa [endsB] using h3 : _ ∧ _).1
    rw [← hl]; exact this
  obtain ⟨m, hma, hmb⟩ : ∃ m, m + 3 ≤ n ∧ n ≤ m + 3 := ⟨n - 3, by omega, by omega⟩
  have hcut := cut_yes g 0 n n zs hl (by omega) (Nat.le_refl _) hr ING (by decide) w ha h3
  have e1 : n - ING.size = m := by show n - 3 = m; omega
  rw [e1] at hcut
  have HC1 : Hid _ := cut_no g 0 n n zs hl (by omega) (Nat.le_refl _) hr EED (by decide) w ha h1
  have HC2 : Hid _ := cut_no g 0 n n zs hl (by omega) (Nat.le_refl _) hr ED (by decide) w ha h2
  have HC3 : Hid _ := hcut
  clear hcut e1
  have e2 : zs.length - 3 = m := by omega
  have HL : Hid (s1b zs = stemB (zs.take m) zs) := by unfold Hid; rw [s1b, h1, h2, h3, e2]; rfl
  have HTK : Hid ((zs.take m).take (m - 1) = zs.take (m - 1)) := by unfold Hid; rw [List.take_take]; congr 1; omega
  obtain ⟨s, hs⟩ : ∃ s, s = zs.take m := ⟨_, rfl⟩
  have hsl : s.length = m := by rw [hs, List.length_take]; omega
  have hRs : Row w (some ⟨g, 0, none⟩) s := by rw [hs]; exact Row.take ha _
  have hrs : ∀ j, 0 ≤ nth s j ∧ nth s j ≤ 255 := by
    intro j
    by_cases hj : j < m
    · rw [hs, nth_take _ _ _ hj]; exact hr j
    · have : nth s j = 0 := by rw [nth, List.getD, List.getElem?_eq_none (by omega)]; rfl
      omega
  rw [← hs] at HL
  have HV : Hid _ := hasv_any g 0 m n s hsl (by omega) w hRs
  have HE : Hid (∀ t : ByteArray, t.size ≤ 1048576 → Calls Try.prog 38 #[.slice (some ⟨g, 0, none⟩) m n, .string t] w fun e w' => e = .returned (.bool (endsB s (sb t))) ∧ w = w') := fun t ht => has_any g 0 m n s hsl (by omega) (by omega) hrs t ht w hRs
  have HD : Hid _ := dbl_any g 0 m n s hsl (by omega) w hRs
  have HM : Hid (∀ nq, Calls Try.prog 40 #[.slice (some ⟨g, 0, none⟩) m n] (w.drewN nq) fun e w' => e = .returned (.int .i64 (meas s : Int)) ∧ w.drewN nq = w') := fun nq => meas_any g 0 m n s hsl (by omega) _ (Row.below hRs (below_drewN (Below.refl _ _) _))
  have HSH : Hid (∀ nq, Calls Try.prog 43 #[.slice (some ⟨g, 0, none⟩) m n] (w.drewN nq) fun e w' => e = .returned (.bool (shortB s)) ∧ w.drewN nq = w') := fun nq => short_any g 0 m n s hsl (by omega) _ (Row.below hRs (below_drewN (Below.refl _ _) _))
  have HG : Hid _ := hg
  have HS : Hid _ := hs
  have HSL : Hid _ := hsl
  have HR : Hid _ := hRs
  clear hg ha hr h1 h2 h3 e2 hs hsl hRs hrs hk
  go_enter Try.func35, Try.ntmps35
  go_wp2_with fail
  refine Calls.mono HC1.out ?_
  rintro e w' ⟨rfl, rfl⟩
  go_wp2_with fail
  refine Calls.mono HC2.out ?_
  rintro e w' ⟨rfl, rfl⟩
  go_wp2_with fail
  refine Calls.mono HC3.out ?_
  rintro e w' ⟨rfl, rfl⟩
  go_wp2_with fail
  refine Calls.mono HV.out ?_
  rintro e w' ⟨rfl, rfl⟩
  cases hv : hasV s with
  | false =>
    have HF : Hid (s1b zs = zs) := by unfold Hid; rw [HL.out, stemB, hv]; rfl
    clear hv
    go_wp2_with fail
    go_ret
    exact S1Out.pre HG.out hl (Nat.le_refl n) (by rw [HF.out, ← hl, List.take_length]) ⟨0, rfl⟩ rfl
  | true =>
  have HL2 : Hid (s1b zs = if endsB s (sb AT) || endsB s (sb BL) || endsB s (sb IZ) then s ++ [101] else if dblB s then (if nth s (s.length - 1) = 108 ∨ nth s (s.length - 1) = 115 ∨ nth s (s.length - 1) = 122 then s else s.take (s.length - 1)) else if meas s == 1 && shortB s then s ++ [101] else s) := by unfold Hid; rw [HL.out, stemB, hv]; rfl
  clear hv HL HV
  go_wp2_with fail
  refine Calls.mono (HE.out AT (by decide)) ?_
  rintro e w' ⟨rfl, rfl⟩
  cases h1 : endsB s (sb AT) with
  | true =>
    have HF : Hid (s1b zs = zs.take m ++ [101]) := by unfold Hid; rw [HL2.out, h1, HS.out]; rfl
    clear h1
    go_wp2_with (at_builtin; refine wpList_append_by rfl (.tmp 50) (.tmp 51) 38 38 rfl _ _ rfl rfl _ _ (app_e _ g m n zs HG.out hl (by omega)) ?_)
    go_ret
    exact S1Out.app HG.out hl (by omega) HF.out ⟨0, rfl⟩ rfl rfl
  | false =>
  go_wp2_with fail
  refine Calls.mono (HE.out BL (by decide)) ?_
  rintro e w' ⟨rfl, rfl⟩
  cases h2 : endsB s (sb BL) with
  | true =>
    have HF : Hid (s1b zs = zs.take m ++ [101]) := by unfold Hid; rw [HL2.out, h1, h2, HS.out]; rfl
    clear h1 h2
    go_wp2_with (at_builtin; refine wpList_append_by rfl (.tmp 50) (.tmp 51) 38 38 rfl _ _ rfl rfl _ _ (app_e _ g m n zs HG.out hl (by omega)) ?_)
    go_ret
    exact S1Out.app HG.out hl (by omega) HF.out ⟨0, rfl⟩ rfl rfl
  | false =>
  go_wp2_with fail
  refine Calls.mono (HE.out IZ (by decide)) ?_
  rintro e w' ⟨rfl, rfl⟩
  cases h3 : endsB s (sb IZ) with
  | true =>
    have HF : Hid (s1b zs = zs.take m ++ [101]) := by unfold Hid; rw [HL2.out, h1, h2, h3, HS.out]; rfl
    clear h1 h2 h3
    go_wp2_with (at_builtin; refine wpList_append_by rfl (.tmp 50) (.tmp 51) 38 38 rfl _ _ rfl rfl _ _ (app_e _ g m n zs HG.out hl (by omega)) ?_)
    go_ret
    exact S1Out.app HG.out hl (by omega) HF.out ⟨0, rfl⟩ rfl rfl
  | false =>
  have HL3 : Hid (s1b zs = if dblB s then (if nth s (s.length - 1) = 108 ∨ nth s (s.length - 1) = 115 ∨ nth s (s.length - 1) = 122 then s else s.take (s.length - 1)) else if meas s == 1 && shortB s then s ++ [101] else s) := by unfold Hid; rw [HL2.out, h1, h2, h3]; rfl
  clear h1 h2 h3 HL2 HE
  go_wp2_with fail
  refine Calls.mono HD.out ?_
  rintro e w' ⟨rfl, nq, rfl⟩
  cases hd : dblB s with
  | true =>
    have hm2 : 2 ≤ m := by
      have : decide (2 ≤ s.length) = true := by simp only [dblB, Bool.and_eq_true] at hd; exact hd.1.1
      simpa [HSL.out] using this
    obtain ⟨b', off', hx, hgw, hc⟩ := HR.out (m - 1) (by rw [HSL.out]; omega)
    simp only [Option.some.injEq, Addr.mk.injEq, and_true] at hx
    obtain ⟨rfl, rfl⟩ := hx
    rw [Nat.zero_add] at hc
    have HL4 : Hid (s1b zs = if nth s (m - 1) = 108 ∨ nth s (m - 1) = 115 ∨ nth s (m - 1) = 122 then zs.take m else zs.take (m - 1)) := by unfold Hid; rw [HL3.out, hd, if_pos rfl, HSL.out, HS.out, ← HTK.out]
    have hnb : (0 : Int) ≤ (m : Int) - 1 := by omega
    have hnb2 : (m : Int) - 1 < (m : Int) := by omega
    have en : Hid ((m : Int) - 1 = ((m - 1 : Nat) : Int)) := by unfold Hid; omega
    clear hd HL3
    generalize nth s (m - 1) = v at *
    by_cases hv : v = 108 ∨ v = 115 ∨ v = 122
    · have HF : Hid (s1b zs = zs.take m) := by unfold Hid; rw [HL4.out, if_pos hv]
      rcases hv with rfl | rfl | rfl <;> (
        go_wp2_with fail
        go_ret
        exact S1Out.pre HG.out hl (by omega) HF.out ⟨_, rfl⟩ rfl)
    · have HF : Hid (s1b zs = zs.take (m - 1)) := by unfold Hid; rw [HL4.out, if_neg hv]
      have n1 : (v != 108) = true := by simp; omega
      have n2 : (v != 115) = true := by simp; omega
      have n3 : (v != 122) = true := by simp; omega
      clear hv
      go_wp2_with fail
      go_ret
      exact S1Out.pre HG.out hl (by omega) HF.out ⟨_, rfl⟩ rfl
  | false =>
  have HL4 : Hid (s1b zs = if meas s == 1 && shortB s then zs.take m ++ [101] else zs.take m) := by unfold Hid; rw [HL3.out, hd, HS.out]; rfl
  clear hd HL3 HD
  go_wp2_with fail
  refine Calls.mono (HM.out _) ?_
  rintro e w' ⟨rfl, rfl⟩
  by_cases hm1 : meas s = 1
  · have hm1' : ((meas s : Int) == 1) = true := by rw [hm1]; rfl
    have hm2' : (meas s == 1) = true := by rw [hm1]; rfl
    have HM2 : Hid _ := hm2'
    clear hm1 hm2'
    generalize (meas s : Int) = mm at hm1'
    go_wp2_with fail
    refine Calls.mono (HSH.out _) ?_
    rintro e w' ⟨rfl, rfl⟩
    cases hsh : shortB s with
    | true =>
      have HF : Hid (s1b zs = zs.take m ++ [101]) := by unfold Hid; rw [HL4.out, HM2.out, hsh]; rfl
      clear hsh
      go_wp2_with (at_builtin; refine wpList_append_by rfl (.tmp 85) (.tmp 86) 38 38 rfl _ _ rfl rfl _ _ (app_e (w.drewN nq) g m n zs HG.out hl (by omega)) ?_)
      go_ret
      exact S1Out.app HG.out hl (by omega) HF.out ⟨_, rfl⟩ rfl rfl
    | false =>
      have HF : Hid (s1b zs = zs.take m) := by unfold Hid; rw [HL4.out, HM2.out, hsh]; rfl
      clear hsh
      go_wp2_with fail
      go_ret
      exact S1Out.pre HG.out hl (by omega) HF.out ⟨_, rfl⟩ rfl
  · have hm1' : ((meas s : Int) == 1) = false := by simp; omega
    have HF : Hid (s1b zs = zs.take m) := by
      have : (meas s == 1) = false := by simpa using hm1
      unfold Hid; rw [HL4.out, this]; rfl
    clear hm1
    generalize (meas s : Int) = mm at hm1'
    go_wp2_with fail
    go_ret
    exact S1Out.pre HG.out hl (by omega) HF.out ⟨_, rfl⟩ rfl

theorem step1b_any (g n : Nat) (zs : List Int) (hl : zs.length = n) (hn : n ≤ 4096) (hr : ∀ j, 0 ≤ nth zs j ∧ nth zs j ≤ 255) (w : World) (hg : w.heap[g]? = some (.cells (bs zs) 5)) :
    Calls Try.prog 35 #[.slice (some ⟨g, 0, none⟩) n n] w (S1Out w g n zs (s1b zs)) := by
  cases h1 : endsB zs (sb EED) with
  | true => exact step1b_eed g n zs hl hn hr w hg h1
  | false =>
    cases h2 : endsB zs (sb ED) with
    | true => exact step1b_ed g n zs hl hn hr w hg h1 h2
    | false =>
      cases h3 : endsB zs (sb ING) with
      | true => exact step1b_ing g n zs hl hn hr w hg h1 h2 h3
      | false => exact step1b_none g n zs hl hn hr w hg h1 h2 h3
theorem step1b_nil (w : World) : Calls Try.prog 35 #[.slice none 0 0] w fun e w' => e = .returned (.slice none 0 0) ∧ w = w' := by
  go_enter Try.func35, Try.ntmps35
  go_wp2_with fail
  refine (cut_nil EED (by decide) (by decide) _).mono ?_
  rintro e w' ⟨rfl, rfl⟩
  go_wp2_with fail
  refine (cut_nil ED (by decide) (by decide) _).mono ?_
  rintro e w' ⟨rfl, rfl⟩
  go_wp2_with fail
  refine (cut_nil ING (by decide) (by decide) _).mono ?_
  rintro e w' ⟨rfl, rfl⟩
  go_wp2_with fail
  go_ret
  exact ⟨rfl, rfl⟩
theorem zzstep1b (g n : Nat) (zs : List Int) (hl : zs.length = n) (hn : n ≤ 4096) (hr : ∀ j, 0 ≤ nth zs j ∧ nth zs j ≤ 255) (w : World) (hg : w.heap[g]? = some (.cells (bs zs) 5)) :
    Calls Try.prog 18 #[.slice (some ⟨g, 0, none⟩) n n] w (S1Out w g n zs (s1b zs)) := by
  have H : Hid _ := step1b_any g n zs hl hn hr w hg
  clear hg hr
  go_enter Try.func18, Try.ntmps18
  go_wp2_with fail
  refine Calls.mono H.out ?_
  intro e w' hout
  obtain ⟨rfl, h2⟩ := hout
  have H2 : Hid _ := h2
  clear h2
  go_wp2_with fail
  go_ret
  exact ⟨rfl, H2.out⟩
theorem zzstep1b_nil (w : World) : Calls Try.prog 18 #[.slice none 0 0] w fun e w' => e = .returned (.slice none 0 0) ∧ w = w' := by
  go_enter Try.func18, Try.ntmps18
  go_wp2_with fail
  refine (step1b_nil _).mono ?_
  rintro e w' ⟨rfl, rfl⟩
  go_wp2_with fail
  go_ret
  exact ⟨rfl, rfl⟩
end Go.Proofs.Qxb6601935a
