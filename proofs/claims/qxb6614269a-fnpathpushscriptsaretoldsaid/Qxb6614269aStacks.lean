/-
  THE WALK of FnPathPushStacksInOrder.
-/
import Derived.Test.Qxb6614269aPath
namespace Go.Proofs.Qxb6614269a
open Go.RowKit

theorem bytes1_any (a : Option Addr) (len cap : Nat) (w : World) (h : len ≤ 1048576) :
    Calls Try.prog 5 #[.slice a len cap] w fun e w' => e = .returned (.bool true) ∧ w' = w := by
  go_enter Try.func5, Try.ntmps5
  go_wp2
  go_ret
  exact ⟨rfl, rfl⟩
theorem bytes1_not (a : Option Addr) (len cap : Nat) (w : World) (h : 1048576 < len) (hm : len ≤ 9223372036854775807) :
    Calls Try.prog 5 #[.slice a len cap] w fun e w' => e = .returned (.bool false) ∧ w' = w := by
  go_enter Try.func5, Try.ntmps5
  go_wp2
  go_ret
  exact ⟨rfl, rfl⟩

/-- What the path holds behind k pushes of g. -/
def held (g : Nat → Int) (k j : Nat) : Int := if j < k then g j else 0
theorem held_succ (g : Nat → Int) (k : Nat) : (fun j => if j = k then g k else held g k j) = held g (k + 1) := by
  funext j
  unfold held
  by_cases h1 : j = k
  · subst h1; simp
  · rw [if_neg h1]
    by_cases h2 : j < k
    · rw [if_pos h2, if_pos (by omega)]
    · rw [if_neg h2, if_neg (by omega)]
theorem held_zero (g : Nat → Int) : (fun _ => (0 : Int)) = held g 0 := by funext j; simp [held]
theorem held_lt (g : Nat → Int) {k j : Nat} (h : j < k) : held g k j = g j := if_pos h
theorem held_ge (g : Nat → Int) {k j : Nat} (h : ¬ j < k) : held g k j = 0 := if_neg h

theorem path_below {w w1 : World} {b : Nat} {f : Nat → Int} {n : Nat} (h : IsPath w b f n) (hB : Below w.heap.size w w1) : IsPath w1 b f n := by
  have hlt : b < w.heap.size := World.block_lt_of_cell? _ _ h.2.1
  exact ⟨fun j hj => (hB.cell (p := ⟨b, j, none⟩) hlt).trans (h.1 j hj), (hB.cell (p := ⟨b, 64, none⟩) hlt).trans h.2.1, fun j hj => (hB.frozen (p := ⟨b, j, none⟩) hlt).trans (h.2.2 j hj)⟩

theorem ret_bool {a b : Bool} (h : a = b) : Ending.returned (.bool a) = .returned (.bool b) := by rw [h]

set_option maxHeartbeats 400000 in
theorem stacks_low (a : Option Addr) (len cap : Nat) (g : Nat → Int) (w : World) (h64 : len ≤ 64)
    (hacc : ∀ k, k < len → ∃ b off, a = some ⟨b, off, none⟩ ∧ b < w.heap.size ∧ w.cell? ⟨b, off + k, none⟩ = some (.int .u32 (g k))) :
    Calls Try.prog 3 #[.slice a len cap] w fun e w' => e = .returned (.bool true) ∧ Below w.heap.size w w' := by
  go_enter Try.func3, Try.ntmps3
  go_wp2_with fail
  refine (bytes1_any _ _ _ _ (by omega)).mono ?_
  rintro e w' ⟨rfl, hw⟩
  subst w'
  go_wp2_with fail
  refine (new_any _).mono ?_
  rintro e w1 ⟨rfl, hp, hB, hs⟩
  rw [held_zero g] at hp
  go_wp2_with fail
  go_loopw [4] (fun i wr => ∃ k : Nat, k ≤ len ∧ i = .int .i64 k ∧ Below w.heap.size w wr ∧ IsPath wr w.heap.size (held g k) k) (fun i _ => len - (intOf i).toNat)
  case atStart => exact ⟨0, Nat.zero_le _, rfl, hB, hp⟩
  case round =>
    obtain ⟨k, hk, rfl, hBr, hpr⟩ := hrel
    clear hp hB hs
    by_cases hlt : k < len
    · obtain ⟨b, off, rfl, hlb, hc⟩ := hacc k hlt
      have hc' := (hBr.cell (p := ⟨b, off + k, none⟩) hlb).trans hc
      go_wp2_with fail
      refine (zzpush_any _ _ _ k _ hpr (by omega)).mono ?_
      rintro e w2 ⟨rfl, hp2, hB2, hs2⟩
      rw [held_succ] at hp2
      go_wp2
      go_roundw
      case rel => exact ⟨k + 1, by omega, by go_num, hBr.trans hB2, hp2⟩
      case measure => simp [intOf]; omega
    · have hkl : k = len := by omega
      subst hkl
      go_wp2_with fail
      refine (len_any _ _ _ _ hpr).mono ?_
      rintro e w2 ⟨rfl, rfl⟩
      go_wp2_with fail
      go_loop [5] (fun i => ∃ j : Nat, j ≤ 64 ∧ i = .int .i64 j) (fun i => 64 - (intOf i).toNat)
      case atStart => exact ⟨0, Nat.zero_le _, rfl⟩
      case round =>
        obtain ⟨j, hj, rfl⟩ := hrel
        by_cases hj64 : j < 64
        · by_cases hjk : j < k
          · obtain ⟨b, off, rfl, hlb, hc⟩ := hacc j hjk
            have hc' := (hBr.cell (p := ⟨b, off + j, none⟩) hlb).trans hc
            have e1 := held_lt g hjk
            go_wp2_with fail
            refine (at_any _ _ _ _ j hpr hj64).mono ?_
            rintro e w2 ⟨rfl, rfl⟩
            go_wp2
            go_round
            case rel => exact ⟨j + 1, by omega, by go_num⟩
            case measure => simp [intOf]; omega
          · have e1 := held_ge g hjk
            go_wp2_with fail
            refine (at_any _ _ _ _ j hpr hj64).mono ?_
            rintro e w2 ⟨rfl, rfl⟩
            go_wp2
            go_round
            case rel => exact ⟨j + 1, by omega, by go_num⟩
            case measure => simp [intOf]; omega
        · go_wp2
          go_ret
          exact ⟨rfl, hBr⟩

theorem stacks_long (a : Option Addr) (len cap : Nat) (w : World) (h64 : 64 < len) (hm : len ≤ 9223372036854775807) :
    Calls Try.prog 3 #[.slice a len cap] w fun e w' => e = .returned (.bool true) ∧ Below w.heap.size w w' := by
  by_cases hb : len ≤ 1048576
  · go_enter Try.func3, Try.ntmps3
    go_wp2_with fail
    refine (bytes1_any _ _ _ _ hb).mono ?_
    rintro e w' ⟨rfl, hw⟩
    subst w'
    go_wp2
    go_ret
    exact ⟨rfl, Below.refl _ _⟩
  · go_enter Try.func3, Try.ntmps3
    go_wp2_with fail
    refine (bytes1_not _ _ _ _ (by omega) hm).mono ?_
    rintro e w' ⟨rfl, hw⟩
    subst w'
    go_wp2
    go_ret
    exact ⟨rfl, Below.refl _ _⟩

/-- A slot of a row that is read lies at a plain address of an old block. -/
theorem row_at {w : World} {x : Addr} {zs : List Int} (hcell : ∀ i, i < zs.length → w.cell? (x.add i) = some (.int .u32 (zs.getD i 0))) (k : Nat) (hk : k < zs.length) :
    ∃ b off, some x = some ⟨b, off, none⟩ ∧ b < w.heap.size ∧ w.cell? ⟨b, off + k, none⟩ = some (.int .u32 (zs.getD k 0)) := by
  obtain ⟨b, off, sp⟩ := x
  have h0 := hcell 0 (by omega)
  have hsp : sp = none := by
    cases sp with
    | none => rfl
    | some s =>
      exfalso
      simp only [Addr.add, World.cell?] at h0
      revert h0
      split <;> simp
  subst hsp
  have hk' := hcell k hk
  refine ⟨b, off, rfl, World.block_lt_of_cell? _ _ h0, ?_⟩
  rw [← hk']
  by_cases e : k = 0
  · subst e; simp [Addr.add]
  · simp [Addr.add, e]
end Go.Proofs.Qxb6614269a
