/-
  THE WALK of FnPlaceCompareStrictTotalOrder: one case for each way the two places lie.
-/
import Derived.Test.Qxb6614411aCompare
namespace Go.Proofs.Qxb6614411a
open Go.RowKit

set_option maxHeartbeats 400000 in
theorem order_lt (r1 k1 r2 k2 : Int) (h : r1 < r2) (w : World) :
    Calls Try.prog 3 #[.int .u64 r1, .int .i64 k1, .int .u64 r2, .int .i64 k2] w fun e w' => e = .returned (.bool true) ∧ Grown w w' := by
  go_enter Try.func3, Try.ntmps3
  go_wp2_with fail
  refine (zz_any r1 k1 r2 k2 (-1) (pc_lt _ _ h) _).mono ?_
  rintro e w' ⟨rfl, c1, c2, c3, rfl⟩
  go_wp2_with fail
  refine (zz_any r2 k2 r1 k1 1 (pc_gt _ _ h) _).mono ?_
  rintro e w' ⟨rfl, d1, d2, d3, rfl⟩
  go_wp2_with fail
  refine (zz_any r1 k1 r1 k1 0 (pc_same _ _) _).mono ?_
  rintro e w' ⟨rfl, b1, b2, b3, rfl⟩
  go_wp2
  go_ret
  exact ⟨rfl, by repeat (first | exact Grown.refl _ | apply Grown.drew | apply Grown.alloc)⟩

set_option maxHeartbeats 400000 in
theorem order_gt (r1 k1 r2 k2 : Int) (h : r2 < r1) (w : World) :
    Calls Try.prog 3 #[.int .u64 r1, .int .i64 k1, .int .u64 r2, .int .i64 k2] w fun e w' => e = .returned (.bool true) ∧ Grown w w' := by
  go_enter Try.func3, Try.ntmps3
  go_wp2_with fail
  refine (zz_any r1 k1 r2 k2 1 (pc_gt _ _ h) _).mono ?_
  rintro e w' ⟨rfl, c1, c2, c3, rfl⟩
  go_wp2_with fail
  refine (zz_any r2 k2 r1 k1 (-1) (pc_lt _ _ h) _).mono ?_
  rintro e w' ⟨rfl, d1, d2, d3, rfl⟩
  go_wp2_with fail
  refine (zz_any r1 k1 r1 k1 0 (pc_same _ _) _).mono ?_
  rintro e w' ⟨rfl, b1, b2, b3, rfl⟩
  go_wp2
  go_ret
  exact ⟨rfl, by repeat (first | exact Grown.refl _ | apply Grown.drew | apply Grown.alloc)⟩

set_option maxHeartbeats 400000 in
theorem order_eq_lt (r k1 k2 : Int) (h : k1 < k2) (w : World) :
    Calls Try.prog 3 #[.int .u64 r, .int .i64 k1, .int .u64 r, .int .i64 k2] w fun e w' => e = .returned (.bool true) ∧ Grown w w' := by
  have hne : (k1 == k2) = false := beq_false_of_ne (by omega)
  go_enter Try.func3, Try.ntmps3
  go_wp2_with fail
  refine (zz_any r k1 r k2 (-1) (pc_eq_lt _ h) _).mono ?_
  rintro e w' ⟨rfl, c1, c2, c3, rfl⟩
  go_wp2_with fail
  refine (zz_any r k2 r k1 1 (pc_eq_gt _ h) _).mono ?_
  rintro e w' ⟨rfl, d1, d2, d3, rfl⟩
  go_wp2_with fail
  refine (zz_any r k1 r k1 0 (pc_same _ _) _).mono ?_
  rintro e w' ⟨rfl, b1, b2, b3, rfl⟩
  go_wp2
  go_ret
  exact ⟨rfl, by repeat (first | exact Grown.refl _ | apply Grown.drew | apply Grown.alloc)⟩

set_option maxHeartbeats 400000 in
theorem order_eq_gt (r k1 k2 : Int) (h : k2 < k1) (w : World) :
    Calls Try.prog 3 #[.int .u64 r, .int .i64 k1, .int .u64 r, .int .i64 k2] w fun e w' => e = .returned (.bool true) ∧ Grown w w' := by
  have hne : (k1 == k2) = false := beq_false_of_ne (by omega)
  go_enter Try.func3, Try.ntmps3
  go_wp2_with fail
  refine (zz_any r k1 r k2 1 (pc_eq_gt _ h) _).mono ?_
  rintro e w' ⟨rfl, c1, c2, c3, rfl⟩
  go_wp2_with fail
  refine (zz_any r k2 r k1 (-1) (pc_eq_lt _ h) _).mono ?_
  rintro e w' ⟨rfl, d1, d2, d3, rfl⟩
  go_wp2_with fail
  refine (zz_any r k1 r k1 0 (pc_same _ _) _).mono ?_
  rintro e w' ⟨rfl, b1, b2, b3, rfl⟩
  go_wp2
  go_ret
  exact ⟨rfl, by repeat (first | exact Grown.refl _ | apply Grown.drew | apply Grown.alloc)⟩

set_option maxHeartbeats 400000 in
theorem order_same (r k : Int) (w : World) :
    Calls Try.prog 3 #[.int .u64 r, .int .i64 k, .int .u64 r, .int .i64 k] w fun e w' => e = .returned (.bool true) ∧ Grown w w' := by
  go_enter Try.func3, Try.ntmps3
  go_wp2_with (go_at_call 4; refine (zz_any r k r k 0 (pc_same _ _) _).mono ?_; rintro e w' ⟨rfl, c1, c2, c3, rfl⟩)
  go_ret
  exact ⟨rfl, by repeat (first | exact Grown.refl _ | apply Grown.drew | apply Grown.alloc)⟩

theorem order_any (r1 k1 r2 k2 : Int) (w : World) :
    Calls Try.prog 3 #[.int .u64 r1, .int .i64 k1, .int .u64 r2, .int .i64 k2] w fun e w' => e = .returned (.bool true) ∧ Grown w w' := by
  rcases Int.lt_trichotomy r1 r2 with h | h | h
  · exact order_lt r1 k1 r2 k2 h w
  · subst h
    rcases Int.lt_trichotomy k1 k2 with h | h | h
    · exact order_eq_lt r1 k1 k2 h w
    · subst h; exact order_same r1 k1 w
    · exact order_eq_gt r1 k1 k2 h w
  · exact order_gt r1 k1 r2 k2 h w
end Go.Proofs.Qxb6614411a
