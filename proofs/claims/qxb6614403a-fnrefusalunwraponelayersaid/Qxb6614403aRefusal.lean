/-
  THE WALKS of the refusal's small functions.
-/
import Derived.Test.Qxb6614403aClone
import Derived.WalkSmall
namespace Go.Proofs.Qxb6614403a
open Go.RowKit

theorem new_any (a : Option Addr) (n c : Nat) (x : Int) (s : ByteArray) (w : World) :
    Calls Try.prog 13 #[.slice a n c, .int .i64 x, .string s] w fun e w' => e = .returned (.pointer (some ⟨w.heap.size, 0, none⟩)) ∧
      w' = w.alloc (.cells #[.slice a n c, .int .i64 x, .iface 57 (.agg #[.string s])] 61) := by
  go_enter Try.func13, Try.ntmps13
  go_wp2
  go_ret
  exact ⟨rfl, rfl⟩

theorem over_any (a : Option Addr) (n c : Nat) (x : Int) (p : Addr) (w : World) :
    Calls Try.prog 14 #[.slice a n c, .int .i64 x, .pointer (some p)] w fun e w' => e = .returned (.pointer (some ⟨w.heap.size, 0, none⟩)) ∧
      w' = w.alloc (.cells #[.slice a n c, .int .i64 x, .iface 41 (.pointer (some p))] 61) := by
  go_enter Try.func14, Try.ntmps14
  go_wp2
  go_ret
  exact ⟨rfl, rfl⟩

theorem unwrap_any (b : Nat) (v : Value) (w : World) (h : w.cell? ⟨b, 2, none⟩ = some v) :
    Calls Try.prog 22 #[.pointer (some ⟨b, 0, none⟩)] w fun e w' => e = .returned v ∧ w' = w := by
  go_enter Try.func22, Try.ntmps22
  go_wp2
  go_ret
  exact ⟨rfl, rfl⟩

theorem as41_41 (v : Value) (w : World) : (Instr.typeAssert (.iface 41 v) 59 41 true).run Try.prog w = .ok (.tuple #[v, .bool true]) w := by kernel_rfl
theorem as41_57 (v : Value) (w : World) : (Instr.typeAssert (.iface 41 v) 59 57 true).run Try.prog w = .ok (.tuple #[.agg #[.string ByteArray.empty], .bool false]) w := by kernel_rfl
theorem as57_57 (v : Value) (w : World) : (Instr.typeAssert (.iface 57 v) 59 57 true).run Try.prog w = .ok (.tuple #[v, .bool true]) w := by kernel_rfl
attribute [local go_sem] as41_41 as41_57 as57_57

theorem unref_any (b : Nat) (p : Addr) (w : World) (h : w.cell? ⟨b, 2, none⟩ = some (.iface 41 (.pointer (some p)))) :
    Calls Try.prog 15 #[.pointer (some ⟨b, 0, none⟩)] w fun e w' => e = .returned (.tuple #[.pointer (some p), .bool true]) ∧ w' = w := by
  go_enter Try.func15, Try.ntmps15
  go_wp2_with fail
  refine (unwrap_any b _ w h).mono ?_
  rintro e w' ⟨rfl, hw⟩
  subst w'
  go_wp2
  go_ret2
  exact ⟨rfl, rfl⟩

theorem reason_yes (b : Nat) (s : ByteArray) (w : World) (h : w.cell? ⟨b, 2, none⟩ = some (.iface 57 (.agg #[.string s]))) :
    Calls Try.prog 16 #[.pointer (some ⟨b, 0, none⟩)] w fun e w' => e = .returned (.tuple #[.string s, .bool true]) ∧ Below w.heap.size w w' := by
  go_enter Try.func16, Try.ntmps16
  go_wp2_with fail
  refine (unwrap_any b _ w h).mono ?_
  rintro e w' ⟨rfl, hw⟩
  subst w'
  go_wp2
  go_ret2
  exact ⟨rfl, (Below.refl _ _).alloc (Nat.le_refl _) _⟩

theorem reason_no (b : Nat) (p : Addr) (w : World) (h : w.cell? ⟨b, 2, none⟩ = some (.iface 41 (.pointer (some p)))) :
    Calls Try.prog 16 #[.pointer (some ⟨b, 0, none⟩)] w fun e w' => e = .returned (.tuple #[.string ByteArray.empty, .bool false]) ∧ Below w.heap.size w w' := by
  go_enter Try.func16, Try.ntmps16
  go_wp2_with fail
  refine (unwrap_any b _ w h).mono ?_
  rintro e w' ⟨rfl, hw⟩
  subst w'
  go_wp2
  go_ret2
  exact ⟨rfl, (Below.refl _ _).alloc (Nat.le_refl _) _⟩

theorem fail_any (b : Nat) (a : Option Addr) (n c : Nat) (x : Int) (w : World) (h0 : w.cell? ⟨b, 0, none⟩ = some (.slice a n c)) (h1 : w.cell? ⟨b, 1, none⟩ = some (.int .i64 x)) :
    Calls Try.prog 17 #[.pointer (some ⟨b, 0, none⟩)] w fun e w' => e = .returned (.tuple #[.slice a n c, .int .i64 x]) ∧ ∃ q, w' = w.drewN q := by
  go_enter Try.func17, Try.ntmps17
  go_wp2
  go_quiet (fail)
  go_wp2
  go_ret2
  exact ⟨rfl, _, rfl⟩

/-- Block b holds a refusal: its fail's type and value, its reason. -/
def IsRef (w : World) (b : Nat) (a : Option Addr) (n c : Nat) (x : Int) (v : Value) : Prop :=
  w.cell? ⟨b, 0, none⟩ = some (.slice a n c) ∧ w.cell? ⟨b, 1, none⟩ = some (.int .i64 x) ∧ w.cell? ⟨b, 2, none⟩ = some v

theorem IsRef.later {w w1 : World} {b : Nat} {a : Option Addr} {n c : Nat} {x : Int} {v : Value} (h : IsRef w b a n c x v) (hB : Below w.heap.size w w1) : IsRef w1 b a n c x v :=
  have hlt : b < w.heap.size := World.block_lt_of_cell? _ _ h.1
  ⟨(hB.cell (p := ⟨b, 0, none⟩) hlt).trans h.1, (hB.cell (p := ⟨b, 1, none⟩) hlt).trans h.2.1, (hB.cell (p := ⟨b, 2, none⟩) hlt).trans h.2.2⟩

theorem ref_new (w : World) (a : Option Addr) (n c : Nat) (x : Int) (v : Value) : IsRef (w.alloc (.cells #[.slice a n c, .int .i64 x, v] 61)) w.heap.size a n c x v := by
  refine ⟨?_, ?_, ?_⟩ <;> rw [World.cell?_alloc_new] <;> rfl

theorem new_ref (a : Option Addr) (n c : Nat) (x : Int) (s : ByteArray) (w : World) :
    Calls Try.prog 13 #[.slice a n c, .int .i64 x, .string s] w fun e w' => e = .returned (.pointer (some ⟨w.heap.size, 0, none⟩)) ∧
      IsRef w' w.heap.size a n c x (.iface 57 (.agg #[.string s])) ∧ Below w.heap.size w w' := by
  refine (new_any a n c x s w).mono ?_
  rintro e w' ⟨rfl, rfl⟩
  exact ⟨rfl, ref_new w a n c x _, (Below.refl _ _).alloc (Nat.le_refl _) _⟩

theorem over_ref (a : Option Addr) (n c : Nat) (x : Int) (p : Addr) (w : World) :
    Calls Try.prog 14 #[.slice a n c, .int .i64 x, .pointer (some p)] w fun e w' => e = .returned (.pointer (some ⟨w.heap.size, 0, none⟩)) ∧
      IsRef w' w.heap.size a n c x (.iface 41 (.pointer (some p))) ∧ Below w.heap.size w w' := by
  refine (over_any a n c x p w).mono ?_
  rintro e w' ⟨rfl, rfl⟩
  exact ⟨rfl, ref_new w a n c x _, (Below.refl _ _).alloc (Nat.le_refl _) _⟩

theorem bytes_low (a b : Option Addr) (n c m d : Nat) (x y : Int) (s : ByteArray) (w : World) (hn : n ≤ 131072) (hm : m ≤ 131072) (h : 8 * n + 8 * m + s.size ≤ 1048576) :
    Calls Try.prog 11 #[.slice a n c, .int .i64 x, .slice b m d, .int .i64 y, .string s] w fun e w' => e = .returned (.bool true) ∧ w' = w := by
  go_enter Try.func11, Try.ntmps11
  go_wp2
  go_ret
  exact ⟨rfl, rfl⟩

set_option maxHeartbeats 400000 in
theorem bytes_some (a b : Option Addr) (n c m d : Nat) (x y : Int) (s : ByteArray) (w : World) (hn : n ≤ 9223372036854775807) (hm : m ≤ 9223372036854775807) (h : s.size ≤ 9223372036854775807) :
    Calls Try.prog 11 #[.slice a n c, .int .i64 x, .slice b m d, .int .i64 y, .string s] w fun e w' => (∃ r, e = .returned (.bool r)) ∧ w' = w := by
  by_cases h1 : n ≤ 1048576
  · by_cases h2 : m ≤ 1048576
    · by_cases h3 : n + m ≤ 1048576
      · by_cases h4 : s.size ≤ 1048576
        · by_cases h5 : n + m + s.size ≤ 1048576
          all_goals
            go_enter Try.func11, Try.ntmps11
            go_wp2
            go_ret
            exact ⟨⟨_, rfl⟩, rfl⟩
        · go_enter Try.func11, Try.ntmps11
          go_wp2
          go_ret
          exact ⟨⟨_, rfl⟩, rfl⟩
      · go_enter Try.func11, Try.ntmps11
        go_wp2
        go_ret
        exact ⟨⟨_, rfl⟩, rfl⟩
    · go_enter Try.func11, Try.ntmps11
      go_wp2
      go_ret
      exact ⟨⟨_, rfl⟩, rfl⟩
  · go_enter Try.func11, Try.ntmps11
    go_wp2
    go_ret
    exact ⟨⟨_, rfl⟩, rfl⟩
end Go.Proofs.Qxb6614403a
