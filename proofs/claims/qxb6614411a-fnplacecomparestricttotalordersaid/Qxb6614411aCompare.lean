/-
  THE WALKS of cmp.Compare, cmp.Or, place.compare, ZZPlaceCompare.
-/
import Derived.Test.Qxb6614411aRows
import Derived.WalkKit
import Derived.WalkSpells
import Derived.Below
import Derived.Deep.RegionHeld3
namespace Go.Proofs.Qxb6614411a
open Go.RowKit

/-- -1, 0, 1: less, equal, greater. -/
def cmp3 (x y : Int) : Int := if x < y then -1 else if y < x then 1 else 0
theorem cmp3_lt {x y : Int} (h : x < y) : cmp3 x y = -1 := by unfold cmp3; rw [if_pos h]
theorem cmp3_gt {x y : Int} (h : y < x) : cmp3 x y = 1 := by unfold cmp3; rw [if_neg (by omega), if_pos h]
theorem cmp3_eq (x : Int) : cmp3 x x = 0 := by unfold cmp3; rw [if_neg (by omega), if_neg (by omega)]

theorem nan64_any (x : Int) (w : World) : Calls Try.prog 9 #[.int .u64 x] w fun e w' => e = .returned (.bool false) ∧ w' = w := by
  go_enter Try.func9, Try.ntmps9
  go_wp2
  go_ret
  exact ⟨by simp, rfl⟩
theorem nan_any (x : Int) (w : World) : Calls Try.prog 10 #[.int .i64 x] w fun e w' => e = .returned (.bool false) ∧ w' = w := by
  go_enter Try.func10, Try.ntmps10
  go_wp2
  go_ret
  exact ⟨by simp, rfl⟩

theorem ret_int {k : IntKind} {a b : Int} (h : a = b) : Ending.returned (.int k a) = .returned (.int k b) := by rw [h]

theorem cmp64_any (x y : Int) (w : World) : Calls Try.prog 7 #[.int .u64 x, .int .u64 y] w fun e w' => e = .returned (.int .i64 (cmp3 x y)) ∧ w' = w := by
  rcases Int.lt_trichotomy x y with h | h | h
  · rw [cmp3_lt h]
    go_enter Try.func7, Try.ntmps7
    go_wp2_with (go_at_call 9; refine (nan64_any _ _).mono ?_; rintro e w' ⟨rfl, rfl⟩)
    go_ret
    exact ⟨rfl, rfl⟩
  · subst h
    rw [cmp3_eq]
    go_enter Try.func7, Try.ntmps7
    go_wp2_with (go_at_call 9; refine (nan64_any _ _).mono ?_; rintro e w' ⟨rfl, rfl⟩)
    go_ret
    exact ⟨rfl, rfl⟩
  · rw [cmp3_gt h]
    go_enter Try.func7, Try.ntmps7
    go_wp2_with (go_at_call 9; refine (nan64_any _ _).mono ?_; rintro e w' ⟨rfl, rfl⟩)
    go_ret
    exact ⟨rfl, rfl⟩
theorem cmp_any (x y : Int) (w : World) : Calls Try.prog 8 #[.int .i64 x, .int .i64 y] w fun e w' => e = .returned (.int .i64 (cmp3 x y)) ∧ w' = w := by
  rcases Int.lt_trichotomy x y with h | h | h
  · rw [cmp3_lt h]
    go_enter Try.func8, Try.ntmps8
    go_wp2_with (go_at_call 10; refine (nan_any _ _).mono ?_; rintro e w' ⟨rfl, rfl⟩)
    go_ret
    exact ⟨rfl, rfl⟩
  · subst h
    rw [cmp3_eq]
    go_enter Try.func8, Try.ntmps8
    go_wp2_with (go_at_call 10; refine (nan_any _ _).mono ?_; rintro e w' ⟨rfl, rfl⟩)
    go_ret
    exact ⟨rfl, rfl⟩
  · rw [cmp3_gt h]
    go_enter Try.func8, Try.ntmps8
    go_wp2_with (go_at_call 10; refine (nan_any _ _).mono ?_; rintro e w' ⟨rfl, rfl⟩)
    go_ret
    exact ⟨rfl, rfl⟩

/-- The first that is not 0. -/
def or2 (x y : Int) : Int := if x = 0 then y else x

theorem or_any (b : Nat) (x y : Int) (w : World) (h0 : w.cell? ⟨b, 0, none⟩ = some (.int .i64 x)) (h1 : w.cell? ⟨b, 1, none⟩ = some (.int .i64 y)) :
    Calls Try.prog 6 #[.slice (some ⟨b, 0, none⟩) 2 2] w fun e w' => e = .returned (.int .i64 (or2 x y)) ∧ w' = w := by
  by_cases hx : x = 0
  · subst hx
    have e0 : or2 0 y = y := by simp [or2]
    rw [e0]
    clear e0
    by_cases hy : y = 0
    · subst hy
      go_enter Try.func6, Try.ntmps6
      go_wp2
      refine wp_loop_rounds 3 ?_
      rw [rounds_succ]
      go_wp2
      rw [rounds_succ]
      go_wp2
      rw [rounds_succ]
      go_wp2
      go_ret
      exact ⟨rfl, rfl⟩
    · have hy' : (y != 0) = true := by simpa using hy
      go_enter Try.func6, Try.ntmps6
      go_wp2
      refine wp_loop_rounds 3 ?_
      rw [rounds_succ]
      go_wp2
      rw [rounds_succ]
      go_wp2
      go_ret
      exact ⟨rfl, rfl⟩
  · have e0 : or2 x y = x := by simp [or2, hx]
    rw [e0]
    clear e0
    have hx' : (x != 0) = true := by simpa using hx
    go_enter Try.func6, Try.ntmps6
    go_wp2
    refine wp_loop_rounds 3 ?_
    rw [rounds_succ]
    go_wp2
    go_ret
    exact ⟨rfl, rfl⟩

theorem or_new (W : World) (n : Nat) (x y : Int) (hn : n = W.heap.size) :
    Calls Try.prog 6 #[.slice (some ⟨n, 0, none⟩) 2 2] (W.alloc (.cells #[.int .i64 x, .int .i64 y] 3)).drew fun e w' => e = .returned (.int .i64 (or2 x y)) ∧ w' = (W.alloc (.cells #[.int .i64 x, .int .i64 y] 3)).drew := by
  subst hn
  exact or_any _ x y _ (by rw [World.cell?_drew, World.cell?_alloc_new]; rfl) (by rw [World.cell?_drew, World.cell?_alloc_new]; rfl)

set_option maxHeartbeats 1000000 in
theorem place_any (r1 k1 r2 k2 : Int) (w : World) :
    Calls Try.prog 5 #[.agg #[.int .u64 r1, .int .i64 k1], .agg #[.int .u64 r2, .int .i64 k2]] w fun e w' => e = .returned (.int .i64 (or2 (cmp3 r1 r2) (cmp3 k1 k2))) ∧ ∃ c1 c2 c3 : Array Value, w' = (((w.alloc (.cells c1 26)).alloc (.cells c2 26)).alloc (.cells c3 3)).drew := by
  go_enter Try.func5, Try.ntmps5
  go_wp2
  go_region_held3 (fun w' => w'.cell? ⟨w.heap.size, 0, none⟩ = some (.int .u64 r1) ∧ w'.cell? ⟨w.heap.size, 1, none⟩ = some (.int .i64 k1) ∧ w'.cell? ⟨w.heap.size + 1, 0, none⟩ = some (.int .u64 r2) ∧ w'.cell? ⟨w.heap.size + 1, 1, none⟩ = some (.int .i64 k2)) (simp [go_sem, World.cell?_alloc_past])
    (first
      | (go_at_call 7; refine (cmp64_any _ _ _).mono ?_; rintro e w' ⟨rfl, rfl⟩)
      | (go_at_call 8; refine (cmp_any _ _ _).mono ?_; rintro e w' ⟨rfl, rfl⟩)
      | (go_at_call 6; refine (or_new _ _ (cmp3 r1 r2) (cmp3 k1 k2) ?_).mono ?_; (simp); rintro e w' ⟨rfl, rfl⟩))
  all_goals
    go_wp2
    go_ret
    exact ⟨rfl, _, _, _, rfl⟩

/-- What compare answers. -/
def pc (r1 k1 r2 k2 : Int) : Int := or2 (cmp3 r1 r2) (cmp3 k1 k2)
theorem pc_lt {r1 r2 : Int} (k1 k2 : Int) (h : r1 < r2) : pc r1 k1 r2 k2 = -1 := by unfold pc; rw [cmp3_lt h]; rfl
theorem pc_gt {r1 r2 : Int} (k1 k2 : Int) (h : r2 < r1) : pc r1 k1 r2 k2 = 1 := by unfold pc; rw [cmp3_gt h]; rfl
theorem pc_eq_lt (r : Int) {k1 k2 : Int} (h : k1 < k2) : pc r k1 r k2 = -1 := by unfold pc; rw [cmp3_eq, cmp3_lt h]; rfl
theorem pc_eq_gt (r : Int) {k1 k2 : Int} (h : k2 < k1) : pc r k1 r k2 = 1 := by unfold pc; rw [cmp3_eq, cmp3_gt h]; rfl
theorem pc_same (r k : Int) : pc r k r k = 0 := by unfold pc; rw [cmp3_eq, cmp3_eq]; rfl

theorem zz_any (r1 k1 r2 k2 A : Int) (hA : pc r1 k1 r2 k2 = A) (w : World) :
    Calls Try.prog 4 #[.int .u64 r1, .int .i64 k1, .int .u64 r2, .int .i64 k2] w fun e w' => e = .returned (.int .i64 A) ∧ ∃ c1 c2 c3 : Array Value, w' = (((w.alloc (.cells c1 26)).alloc (.cells c2 26)).alloc (.cells c3 3)).drew := by
  subst hA
  go_enter Try.func4, Try.ntmps4
  go_wp2_with fail
  refine (place_any r1 k1 r2 k2 _).mono ?_
  rintro e w' ⟨rfl, c1, c2, c3, rfl⟩
  go_wp2
  go_ret
  exact ⟨rfl, c1, c2, c3, rfl⟩

end Go.Proofs.Qxb6614411a
