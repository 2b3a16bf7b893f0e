/-
  THE WALK of FnRefusalUnwrapOneLayer.
-/
import Derived.Test.Qxb6614403aRefusal
import Derived.Lib.Builder
namespace Go.Proofs.Qxb6614403a
open Go.RowKit

theorem some61 : (Try.prog.info? 61).isSome = true := by kernel_rfl
theorem neq41 (p : Addr) (w : World) : (binOp .neq 41 (.pointer (some p)) (.pointer (some p))).run Try.prog w = .ok (.bool false) w := by
  obtain ⟨j, hj⟩ := Option.isSome_iff_exists.1 some61
  exact Lib.run_neq_ptr_same w p Try.underlying41 hj
attribute [local go_sem] neq41

/-- The tests at the law's head: it returns true at once. -/
def Big (n m k : Nat) : Prop := ¬ (n ≤ 131072 ∧ m ≤ 131072 ∧ 8 * n + 8 * m + k ≤ 1048576)

set_option maxHeartbeats 400000 in
theorem layer_big (a b : Option Addr) (n c m d : Nat) (x y : Int) (s : ByteArray) (w : World) (hn : n ≤ 9223372036854775807) (hm : m ≤ 9223372036854775807) (h : s.size ≤ 9223372036854775807) (hbig : Big n m s.size) :
    Calls Try.prog 5 #[.slice a n c, .int .i64 x, .slice b m d, .int .i64 y, .string s] w fun e w' => e = .returned (.bool true) ∧ Below w.heap.size w w' := by
  unfold Big at hbig
  by_cases h1 : n ≤ 131072
  · by_cases h2 : m ≤ 131072
    · by_cases h3 : s.size ≤ 1048576
      · have h4 : 1048576 < 8 * n + 8 * m + s.size := by omega
        clear hbig
        go_enter Try.func5, Try.ntmps5
        go_wp2_with fail
        refine (bytes_some _ _ _ _ _ _ _ _ _ _ hn hm h).mono ?_
        rintro e w' ⟨⟨r, rfl⟩, hw⟩
        subst w'
        cases r
        all_goals
          go_wp2
          go_ret
          exact ⟨rfl, Below.refl _ _⟩
      · clear hbig
        go_enter Try.func5, Try.ntmps5
        go_wp2_with fail
        refine (bytes_some _ _ _ _ _ _ _ _ _ _ hn hm h).mono ?_
        rintro e w' ⟨⟨r, rfl⟩, hw⟩
        subst w'
        cases r
        all_goals
          go_wp2
          go_ret
          exact ⟨rfl, Below.refl _ _⟩
    · clear hbig
      go_enter Try.func5, Try.ntmps5
      go_wp2_with fail
      refine (bytes_some _ _ _ _ _ _ _ _ _ _ hn hm h).mono ?_
      rintro e w' ⟨⟨r, rfl⟩, hw⟩
      subst w'
      cases r
      all_goals
        go_wp2
        go_ret
        exact ⟨rfl, Below.refl _ _⟩
  · clear hbig
    go_enter Try.func5, Try.ntmps5
    go_wp2_with fail
    refine (bytes_some _ _ _ _ _ _ _ _ _ _ hn hm h).mono ?_
    rintro e w' ⟨⟨r, rfl⟩, hw⟩
    subst w'
    cases r
    all_goals
      go_wp2
      go_ret
      exact ⟨rfl, Below.refl _ _⟩

set_option maxHeartbeats 1000000 in
theorem layer_low (a b : Option Addr) (n c m d : Nat) (x y : Int) (s : ByteArray) (g h : Nat → Int) (z z' : Bool) (w : World) (hn : n ≤ 131072) (hm : m ≤ 131072) (hs : 8 * n + 8 * m + s.size ≤ 1048576)
    (ha : IsInts w a n g z) (hb : IsInts w b m h z') (hc : z = true → c = 0) (hd : z' = true → d = 0) :
    Calls Try.prog 5 #[.slice a n c, .int .i64 x, .slice b m d, .int .i64 y, .string s] w fun e w' => e = .returned (.bool true) ∧ Below w.heap.size w w' := by
  go_enter Try.func5, Try.ntmps5
  go_wp2_with fail
  refine (bytes_low _ _ _ _ _ _ _ _ _ _ hn hm hs).mono ?_
  rintro e w' ⟨rfl, hw⟩
  subst w'
  go_wp2_with fail
  refine (clone_any _ _ _ g z _ hn ha hc).mono ?_
  rintro e w1 ⟨a1, c1, rfl, hc1, ha1, B1⟩
  have hb1 := hb.later B1
  go_wp2_with fail
  refine (clone_any _ _ _ h z' _ hm hb1 hd).mono ?_
  rintro e w2 ⟨b1, d1, rfl, hd1, hbb1, B2⟩
  have ha2 := ha1.later B2
  go_wp2_with fail
  refine (clone_any _ _ _ g z _ hn ha2 hc1).mono ?_
  rintro e w3 ⟨a3, c3, rfl, hc3, hw3, B3⟩
  have ha3 := ha2.later B3
  have hb3 := hbb1.later B3
  go_wp2_with fail
  refine (clone_any _ _ _ h z' _ hm hb3 hd1).mono ?_
  rintro e w4 ⟨b4, d4, rfl, hd4, hw4, B4⟩
  have ha4 := ha3.later B4
  have hb4 := hb3.later B4
  have hw34 := hw3.later B4
  clear ha hb hc hd hb1 ha1 ha2 hbb1 ha3 hb3 hw3 hc1 hd1 hc3 hd4
  have BB : Below w.heap.size w w4 := B1.trans ((B2.mono B1.size).trans ((B3.mono (Nat.le_trans B1.size B2.size)).trans (B4.mono (Nat.le_trans B1.size (Nat.le_trans B2.size B3.size)))))
  have hz4 : w.heap.size ≤ w4.heap.size := BB.size
  clear B1 B2 B3 B4
  go_wp2_with fail
  refine (new_ref _ _ _ _ _ _).mono ?_
  rintro e w5 ⟨rfl, R5, B5⟩
  go_wp2_with fail
  refine (over_ref _ _ _ _ _ _).mono ?_
  rintro e w6 ⟨rfl, O6, B6⟩
  have R6 := R5.later B6
  go_wp2_with fail
  refine (unref_any _ _ _ O6.2.2).mono ?_
  rintro e w' ⟨rfl, hw⟩
  subst w'
  go_wp2_with fail
  refine (reason_no _ _ _ O6.2.2).mono ?_
  rintro e w7 ⟨rfl, B7⟩
  have R7 := R6.later B7
  go_wp2_with fail
  refine (reason_yes _ _ _ R7.2.2).mono ?_
  rintro e w8 ⟨rfl, B8⟩
  have O8 := (O6.later B7).later B8
  have R8 := R7.later B8
  go_wp2_with fail
  refine (fail_any _ _ _ _ _ _ O8.1 O8.2.1).mono ?_
  rintro e w' ⟨rfl, q1, rfl⟩
  go_wp2_with fail
  refine (fail_any _ _ _ _ _ _ (by exact R8.1) (by exact R8.2.1)).mono ?_
  rintro e w' ⟨rfl, q2, rfl⟩
  go_wp2_with fail
  have B48 : Below w4.heap.size w4 w8 := B5.trans ((B6.mono B5.size).trans ((B7.mono (Nat.le_trans B5.size B6.size)).trans (B8.mono (Nat.le_trans B5.size (Nat.le_trans B6.size B7.size)))))
  have hb8 := hb4.later B48
  have hw8 := hw4.later B48
  have ha8 := ha4.later B48
  have hv8 := hw34.later B48
  refine (same_any _ _ _ _ _ h z' _ hm (by exact hb8) (by exact hw8)).mono ?_
  rintro e w' ⟨rfl, q3, rfl⟩
  go_wp2_with fail
  refine (same_any _ _ _ _ _ g z _ hn (by exact ha8) (by exact hv8)).mono ?_
  rintro e w' ⟨rfl, q4, rfl⟩
  go_wp2
  go_ret
  exact ⟨rfl, below_drewN (BB.trans (B48.mono hz4)) _⟩
end Go.Proofs.Qxb6614403a
