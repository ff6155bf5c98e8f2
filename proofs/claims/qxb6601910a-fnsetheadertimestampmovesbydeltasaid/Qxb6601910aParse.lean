/-
  The walks of parseBasicHeader, ZZParseBasicHeader and shortestHeader: each computes a plain function.
-/
import Derived.Test.Qxb6601910aProg
import Derived.WalkKit
import Derived.WalkSpells
import Derived.WalkLawsBesides
namespace Go.Proofs.Qxb6601910a
open Go.RowKit

/-- What parseBasicHeader tells of the first three bytes x, y, z of n bytes: the length. -/
def phK (x : Int) : Int := if x % 64 = 0 then 2 else if x % 64 = 1 then 3 else 1
def phF (x : Int) (n : Nat) : Int := if (n : Int) < phK x then 0 else x / 64
def phI (x y z : Int) (n : Nat) : Int :=
  if (n : Int) < phK x then 0 else if x % 64 = 0 then 64 + y else if x % 64 = 1 then 64 + y + z * 256 else x % 64

set_option maxHeartbeats 1600000 in
theorem ph_any (b off n c : Nat) (x y z : Int) (h0 : 0 ≤ x) (h1 : x ≤ 255) (hy0 : 0 ≤ y) (hy1 : y ≤ 255) (hz0 : 0 ≤ z) (hz1 : z ≤ 255) (hn : 1 ≤ n) (w : World)
    (c0 : w.cell? ⟨b, off, none⟩ = some (.int .u8 x)) (c1 : 2 ≤ n → w.cell? ⟨b, off + 1, none⟩ = some (.int .u8 y)) (c2 : 3 ≤ n → w.cell? ⟨b, off + 2, none⟩ = some (.int .u8 z)) (hb : b < w.heap.size) :
    Calls Try.prog 19 #[.slice (some ⟨b, off, none⟩) n c] w fun e w' => e = .returned (.tuple #[.agg #[.int .u8 (phF x n), .int .u32 (phI x y z n)], .int .i64 (phK x)]) ∧ w' = w.alloc (.cells #[.int .u8 (phF x n), .int .u32 (phI x y z n)] 26) := by
  by_cases m0 : x % 64 = 0
  · by_cases n2 : 2 ≤ n
    · have e1 : phK x = 2 := by simp [phK, m0]
      have e2 : phF x n = x / 64 := by rw [phF, e1, if_neg (by omega)]
      have e3 : phI x y z n = 64 + y := by rw [phI, e1, if_neg (by omega), if_pos m0]
      rw [e1, e2, e3]
      clear e1 e2 e3
      have g1 := c1 n2
      clear c1 c2
      go_enter Try.func19, Try.ntmps19
      go_wp2
      exact bodyPost_ret (v := .tuple #[.agg #[.int .u8 (x / 64), .int .u32 (64 + y)], .int .i64 2]) (by simp [results, Try.results19, go_sem]) rfl ⟨rfl, rfl⟩
    · have e1 : phK x = 2 := by simp [phK, m0]
      have e2 : phF x n = 0 := by rw [phF, e1, if_pos (by omega)]
      have e3 : phI x y z n = 0 := by rw [phI, e1, if_pos (by omega)]
      rw [e1, e2, e3]
      clear e1 e2 e3 c1 c2
      go_enter Try.func19, Try.ntmps19
      go_wp2
      exact bodyPost_ret (v := .tuple #[.agg #[.int .u8 0, .int .u32 0], .int .i64 2]) (by simp [results, Try.results19, go_sem]) rfl ⟨rfl, rfl⟩
  by_cases m1 : x % 64 = 1
  · by_cases n2 : 3 ≤ n
    · have e1 : phK x = 3 := by simp [phK, m1]
      have e2 : phF x n = x / 64 := by rw [phF, e1, if_neg (by omega)]
      have e3 : phI x y z n = 64 + y + z * 256 := by rw [phI, e1, if_neg (by omega), if_neg m0, if_pos m1]
      rw [e1, e2, e3]
      clear e1 e2 e3 m0
      have g1 := c1 (by omega)
      have g2 := c2 n2
      clear c1 c2
      go_enter Try.func19, Try.ntmps19
      go_wp2
      exact bodyPost_ret (v := .tuple #[.agg #[.int .u8 (x / 64), .int .u32 (64 + y + z * 256)], .int .i64 3]) (by simp [results, Try.results19, go_sem]) rfl ⟨rfl, rfl⟩
    · have e1 : phK x = 3 := by simp [phK, m1]
      have e2 : phF x n = 0 := by rw [phF, e1, if_pos (by omega)]
      have e3 : phI x y z n = 0 := by rw [phI, e1, if_pos (by omega)]
      rw [e1, e2, e3]
      clear e1 e2 e3 c1 c2 m0
      go_enter Try.func19, Try.ntmps19
      go_wp2
      exact bodyPost_ret (v := .tuple #[.agg #[.int .u8 0, .int .u32 0], .int .i64 3]) (by simp [results, Try.results19, go_sem]) rfl ⟨rfl, rfl⟩
  · have e1 : phK x = 1 := by simp [phK, m0, m1]
    have e2 : phF x n = x / 64 := by rw [phF, e1, if_neg (by omega)]
    have e3 : phI x y z n = x % 64 := by rw [phI, e1, if_neg (by omega), if_neg m0, if_neg m1]
    rw [e1, e2, e3]
    clear e1 e2 e3 c1 c2
    have hm : 2 ≤ x % 64 := by omega
    clear m0 m1
    go_enter Try.func19, Try.ntmps19
    go_wp2
    exact bodyPost_ret (v := .tuple #[.agg #[.int .u8 (x / 64), .int .u32 (x % 64)], .int .i64 1]) (by simp [results, Try.results19, go_sem]) rfl ⟨rfl, rfl⟩

set_option maxHeartbeats 400000 in
theorem zzph_any (b off n c : Nat) (x y z : Int) (h0 : 0 ≤ x) (h1 : x ≤ 255) (hy0 : 0 ≤ y) (hy1 : y ≤ 255) (hz0 : 0 ≤ z) (hz1 : z ≤ 255) (hn : 1 ≤ n) (w : World)
    (c0 : w.cell? ⟨b, off, none⟩ = some (.int .u8 x)) (c1 : 2 ≤ n → w.cell? ⟨b, off + 1, none⟩ = some (.int .u8 y)) (c2 : 3 ≤ n → w.cell? ⟨b, off + 2, none⟩ = some (.int .u8 z)) (hb : b < w.heap.size) :
    Calls Try.prog 9 #[.slice (some ⟨b, off, none⟩) n c] w fun e w' => e = .returned (.tuple #[.agg #[.int .u8 (phF x n), .int .u32 (phI x y z n)], .int .i64 (phK x)]) ∧ w' = (w.alloc (.cells #[.int .u8 (phF x n), .int .u32 (phI x y z n)] 26)).alloc (.cells #[.int .u8 (phF x n), .int .u32 (phI x y z n)] 26) := by
  have hk : ∀ W : World, w.heap.size < W.heap.size → (∀ o, W.cell? ⟨b, o, none⟩ = w.cell? ⟨b, o, none⟩) → Calls Try.prog 19 #[.slice (some ⟨b, off, none⟩) n c] W fun e w' => e = .returned (.tuple #[.agg #[.int .u8 (phF x n), .int .u32 (phI x y z n)], .int .i64 (phK x)]) ∧ w' = W.alloc (.cells #[.int .u8 (phF x n), .int .u32 (phI x y z n)] 26) := by
    intro W hs hW
    exact ph_any b off n c x y z h0 h1 hy0 hy1 hz0 hz1 hn W (by rw [hW]; exact c0) (fun h => by rw [hW]; exact c1 h) (fun h => by rw [hW]; exact c2 h) (by omega)
  have H : Hid _ := hk
  clear hk c0 c1 c2
  go_enter Try.func9, Try.ntmps9
  go_wp2_with fail
  refine (H.out _ (by simp) (fun o => by simp [World.cell?_alloc_past, hb])).mono ?_
  rintro e w' ⟨rfl, rfl⟩
  go_wp2
  exact bodyPost_ret (v := .tuple #[.agg #[.int .u8 (phF x n), .int .u32 (phI x y z n)], .int .i64 (phK x)]) (by simp [results, Try.results9, go_sem]) rfl ⟨rfl, rfl⟩

/-- What shortestHeader writes. -/
def shK (i : Int) : Int := if i < 64 then 1 else if i < 320 then 2 else 3
def sh0 (f i : Int) : Int := if i < 64 then f * 64 + i else if i < 320 then f * 64 else f * 64 + 1
def sh1 (i : Int) : Int := if i < 64 then 0 else if i < 320 then i - 64 else (i - 64) % 256
def sh2 (i : Int) : Int := if i < 320 then 0 else (i - 64) / 256

set_option maxHeartbeats 1600000 in
theorem sh_any (f i : Int) (f0 : 0 ≤ f) (f1 : f ≤ 3) (i0 : 0 ≤ i) (i1 : i ≤ 65599) (w : World) :
    Calls Try.prog 10 #[.int .u8 f, .int .u32 i] w fun e w' => e = .returned (.tuple #[.agg #[.int .u8 (sh0 f i), .int .u8 (sh1 i), .int .u8 (sh2 i)], .int .i64 (shK i)]) ∧
      w' = (w.alloc (.cells #[.int .u8 (sh0 f i), .int .u8 (sh1 i), .int .u8 (sh2 i)] 29)).alloc (.cells #[.int .u8 (sh0 f i), .int .u8 (sh1 i), .int .u8 (sh2 i)] 29) := by
  by_cases a : i < 64
  · have e0 : sh0 f i = f * 64 + i := by rw [sh0, if_pos a]
    have e1 : sh1 i = 0 := by rw [sh1, if_pos a]
    have e2 : sh2 i = 0 := by rw [sh2, if_pos (by omega)]
    have e3 : shK i = 1 := by rw [shK, if_pos a]
    rw [e0, e1, e2, e3]
    clear e0 e1 e2 e3
    go_enter Try.func10, Try.ntmps10
    go_wp2
    exact bodyPost_ret (v := .tuple #[.agg #[_, _, _], _]) (by simp [results, Try.results10, go_sem]) rfl ⟨rfl, rfl⟩
  by_cases a' : i < 320
  · have e0 : sh0 f i = f * 64 := by rw [sh0, if_neg a, if_pos a']
    have e1 : sh1 i = i - 64 := by rw [sh1, if_neg a, if_pos a']
    have e2 : sh2 i = 0 := by rw [sh2, if_pos (by omega)]
    have e3 : shK i = 2 := by rw [shK, if_neg a, if_pos a']
    rw [e0, e1, e2, e3]
    clear e0 e1 e2 e3
    go_enter Try.func10, Try.ntmps10
    go_wp2
    exact bodyPost_ret (v := .tuple #[.agg #[_, _, _], _]) (by simp [results, Try.results10, go_sem]) rfl ⟨rfl, rfl⟩
  · have e0 : sh0 f i = f * 64 + 1 := by rw [sh0, if_neg a, if_neg a']
    have e1 : sh1 i = (i - 64) % 256 := by rw [sh1, if_neg a, if_neg a']
    have e2 : sh2 i = (i - 64) / 256 := by rw [sh2, if_neg (by omega)]
    have e3 : shK i = 3 := by rw [shK, if_neg a, if_neg a']
    rw [e0, e1, e2, e3]
    clear e0 e1 e2 e3
    go_enter Try.func10, Try.ntmps10
    go_wp2
    exact bodyPost_ret (v := .tuple #[.agg #[_, _, _], _]) (by simp [results, Try.results10, go_sem]) rfl ⟨rfl, rfl⟩
end Go.Proofs.Qxb6601910a
