/-
  THE WALK of FnPathPushScriptsAreTold.
-/
import Derived.Test.Qxb6614269aStacks
import Derived.WalkSmall
import Derived.Deep.QuietTactic
import Derived.BigQuiet
namespace Go.Proofs.Qxb6614269a
open Go.RowKit

/-- Do the two agree at every place below n? -/
def eqB (f h : Nat → Int) : Nat → Bool
  | 0 => true
  | n + 1 => eqB f h n && (f n == h n)

theorem eqB_yes {f h : Nat → Int} {n : Nat} (e : f n = h n) : eqB f h (n + 1) = eqB f h n := by simp [eqB, e]
theorem eqB_no {f h : Nat → Int} {n : Nat} (e : ¬ f n = h n) : eqB f h (n + 1) = false := by simp [eqB, e]
theorem eqB_iff (f h : Nat → Int) (n : Nat) : eqB f h n = true ↔ ∀ j, j < n → f j = h j := by
  induction n with
  | zero => simp [eqB]
  | succ n ih =>
    rw [eqB, Bool.and_eq_true, ih]
    constructor
    · rintro ⟨h1, h2⟩ j hj
      by_cases e : j = n
      · subst e; simpa using h2
      · exact h1 j (by omega)
    · intro h1
      exact ⟨fun j hj => h1 j (by omega), by simpa using h1 n (by omega)⟩

/-- Paths of one length agree at all 64 places just where the pushed values agree. -/
theorem eqB_held (f h : Nat → Int) (n : Nat) (hn : n ≤ 64) : eqB (held f n) (held h n) 64 = eqB f h n := by
  rw [Bool.eq_iff_iff, eqB_iff, eqB_iff]
  constructor
  · intro H j hj
    have := H j (by omega)
    rwa [held_lt f hj, held_lt h hj] at this
  · intro H j _
    by_cases hj : j < n
    · rw [held_lt f hj, held_lt h hj]; exact H j hj
    · rw [held_ge f hj, held_ge h hj]

theorem path_kept {w w1 : World} {b B : Nat} {f : Nat → Int} {n : Nat} (h : IsPath w b f n) (hB : Below B w w1) (hlt : b < B) : IsPath w1 b f n :=
  ⟨fun j hj => (hB.cell (p := ⟨b, j, none⟩) hlt).trans (h.1 j hj), (hB.cell (p := ⟨b, 64, none⟩) hlt).trans h.2.1, fun j hj => (hB.frozen (p := ⟨b, j, none⟩) hlt).trans (h.2.2 j hj)⟩

theorem bytes2_any (a b : Option Addr) (len cap len' cap' : Nat) (w : World) (h : len ≤ 64) (h' : len' ≤ 64) :
    Calls Try.prog 10 #[.slice a len cap, .slice b len' cap'] w fun e w' => e = .returned (.bool true) ∧ w' = w := by
  go_enter Try.func10, Try.ntmps10
  go_wp2
  go_ret
  exact ⟨rfl, rfl⟩

theorem bytes2_some (a b : Option Addr) (len cap len' cap' : Nat) (w : World) (h : len ≤ 9223372036854775807) (h' : len' ≤ 9223372036854775807) :
    Calls Try.prog 10 #[.slice a len cap, .slice b len' cap'] w fun e w' => (∃ r, e = .returned (.bool r)) ∧ w' = w := by
  by_cases h1 : len ≤ 1048576
  · by_cases h2 : len' ≤ 1048576
    · by_cases h3 : len + len' ≤ 1048576
      all_goals
        go_enter Try.func10, Try.ntmps10
        go_wp2
        go_ret
        exact ⟨⟨_, rfl⟩, rfl⟩
    · go_enter Try.func10, Try.ntmps10
      go_wp2
      go_ret
      exact ⟨⟨_, rfl⟩, rfl⟩
  · go_enter Try.func10, Try.ntmps10
    go_wp2
    go_ret
    exact ⟨⟨_, rfl⟩, rfl⟩

set_option maxHeartbeats 400000 in
theorem scripts_long (a b : Option Addr) (len cap len' cap' : Nat) (w : World) (h64 : 64 < len ∨ 64 < len') (hm : len ≤ 9223372036854775807) (hm' : len' ≤ 9223372036854775807) :
    Calls Try.prog 4 #[.slice a len cap, .slice b len' cap'] w fun e w' => e = .returned (.bool true) ∧ Below w.heap.size w w' := by
  by_cases h1 : 64 < len
  · go_enter Try.func4, Try.ntmps4
    go_wp2_with fail
    refine (bytes2_some _ _ _ _ _ _ _ hm hm').mono ?_
    rintro e w' ⟨⟨r, rfl⟩, hw⟩
    subst w'
    cases r
    all_goals
      go_wp2
      go_ret
      exact ⟨rfl, Below.refl _ _⟩
  · have h2 : 64 < len' := by omega
    go_enter Try.func4, Try.ntmps4
    go_wp2_with fail
    refine (bytes2_some _ _ _ _ _ _ _ hm hm').mono ?_
    rintro e w' ⟨⟨r, rfl⟩, hw⟩
    subst w'
    cases r
    all_goals
      go_wp2
      go_ret
      exact ⟨rfl, Below.refl _ _⟩

set_option maxHeartbeats 1000000 in
theorem scripts_low (a a' : Option Addr) (len cap len' cap' : Nat) (g h : Nat → Int) (w : World) (h64 : len ≤ 64) (h64' : len' ≤ 64)
    (hacc : ∀ k, k < len → ∃ b off, a = some ⟨b, off, none⟩ ∧ b < w.heap.size ∧ w.cell? ⟨b, off + k, none⟩ = some (.int .u32 (g k)))
    (hacc' : ∀ k, k < len' → ∃ b off, a' = some ⟨b, off, none⟩ ∧ b < w.heap.size ∧ w.cell? ⟨b, off + k, none⟩ = some (.int .u32 (h k))) :
    Calls Try.prog 4 #[.slice a len cap, .slice a' len' cap'] w fun e w' => e = .returned (.bool true) ∧ Below w.heap.size w w' := by
  go_enter Try.func4, Try.ntmps4
  go_wp2_with fail
  refine (bytes2_any _ _ _ _ _ _ _ h64 h64').mono ?_
  rintro e w' ⟨rfl, hw⟩
  subst w'
  go_wp2_with fail
  refine (new_any _).mono ?_
  rintro e w1 ⟨rfl, hp, hB, hs⟩
  rw [held_zero g] at hp
  go_wp2_with fail
  go_loopw [6] (fun i wr => ∃ k : Nat, k ≤ len ∧ i = .int .i64 k ∧ Below w.heap.size w wr ∧ IsPath wr w.heap.size (held g k) k) (fun i _ => len - (intOf i).toNat)
  case atStart => exact ⟨0, Nat.zero_le _, rfl, hB, hp⟩
  case round =>
    obtain ⟨k, hk, rfl, hBr, hpr⟩ := hrel
    clear hp hB hs
    by_cases hlt : k < len
    · obtain ⟨b, off, rfl, hlb, hc⟩ := hacc k hlt
      have hc' := (hBr.cell (p := ⟨b, off + k, none⟩) hlb).trans hc
      go_wp2_with fail
      refine (zzpush_any _ _ _ k _ hpr (by omega)).mono ?_
      rintro e w2 ⟨rfl, hp2, hB2, hs2⟩
      rw [held_succ] at hp2
      go_wp2
      go_roundw
      case rel => exact ⟨k + 1, by omega, by go_num, hBr.trans hB2, hp2⟩
      case measure => simp [intOf]; omega
    · have hkl : k = len := by omega
      subst hkl
      have hb1 : w.heap.size < wr.heap.size := World.block_lt_of_cell? _ _ hpr.2.1
      go_wp2_with fail
      refine (new_any _).mono ?_
      rintro e w3 ⟨rfl, hq, hB3, hs3⟩
      rw [held_zero h] at hq
      have hp3 := path_kept hpr hB3 hb1
      have hBw3 := hBr.trans (hB3.mono (Nat.le_of_lt hb1))
      go_wp2_with fail
      go_loopw [8] (fun i wq => ∃ m : Nat, m ≤ len' ∧ i = .int .i64 m ∧ Below w.heap.size w wq ∧ IsPath wq w.heap.size (held g k) k ∧ IsPath wq wr.heap.size (held h m) m) (fun i _ => len' - (intOf i).toNat)
      case atStart => exact ⟨0, Nat.zero_le _, rfl, hBw3, hp3, hq⟩
      case round =>
        obtain ⟨m, hm, rfl, hBq, hpq, hqq⟩ := hrel
        clear hp3 hq hB3 hs3 hBw3 hpr hBr
        by_cases hlm : m < len'
        · obtain ⟨b, off, rfl, hlb, hc⟩ := hacc' m hlm
          have hc' := (hBq.cell (p := ⟨b, off + m, none⟩) hlb).trans hc
          go_wp2_with fail
          refine (zzpush_any _ _ _ m _ hqq (by omega)).mono ?_
          rintro e w2 ⟨rfl, hp2, hB2, hs2⟩
          rw [held_succ] at hp2
          go_wp2
          go_roundw
          case rel => exact ⟨m + 1, by omega, by go_num, hBq.trans (hB2.mono (Nat.le_of_lt hb1)), path_kept hpq hB2 hb1, hp2⟩
          case measure => simp [intOf]; omega
        · have hml : m = len' := by omega
          subst hml
          go_wp2_with fail
          refine (len_any _ _ _ _ hpq).mono ?_
          rintro e w4 ⟨rfl, hw⟩
          subst w4
          go_wp2_with fail
          refine (len_any _ _ _ _ hqq).mono ?_
          rintro e w4 ⟨rfl, hw⟩
          subst w4
          go_wp2_with fail
          go_loop [9, 10] (fun s i => ∃ j : Nat, j ≤ 64 ∧ i = .int .i64 j ∧ s = .bool (((k : Int) == (m : Int)) && eqB (held g k) (held h m) j)) (fun _ i => 64 - (intOf i).toNat)
          case atStart => exact ⟨0, Nat.zero_le _, rfl, by simp [eqB]⟩
          case round =>
            obtain ⟨j, hj, rfl, rfl⟩ := hrel
            by_cases hj64 : j < 64
            · by_cases hE : held g k j = held h m j
              · have E1 : Hid (eqB (held g k) (held h m) (j + 1) = eqB (held g k) (held h m) j) := eqB_yes hE
                go_wp2_with fail
                refine (at_any _ _ _ _ j hpq hj64).mono ?_
                rintro e w4 ⟨rfl, hw⟩
                subst w4
                go_wp2_with fail
                refine (at_any _ _ _ _ j hqq hj64).mono ?_
                rintro e w4 ⟨rfl, hw⟩
                subst w4
                go_wp2
                go_round
                case rel => exact ⟨j + 1, by omega, by go_num, by rw [E1.out]⟩
                case measure => simp [intOf]; omega
              · have E1 : Hid (eqB (held g k) (held h m) (j + 1) = false) := eqB_no hE
                have hE' : ((held g k j != held h m j) = true) := by simpa using hE
                go_wp2_with fail
                refine (at_any _ _ _ _ j hpq hj64).mono ?_
                rintro e w4 ⟨rfl, hw⟩
                subst w4
                go_wp2_with fail
                refine (at_any _ _ _ _ j hqq hj64).mono ?_
                rintro e w4 ⟨rfl, hw⟩
                subst w4
                go_wp2
                go_round
                case rel => exact ⟨j + 1, by omega, by go_num, by rw [E1.out, Bool.and_false]⟩
                case measure => simp [intOf]; omega
            · have hj' : j = 64 := by omega
              subst hj'
              by_cases hkm : k = m
              · subst hkm
                have E2 : Hid (eqB (held g k) (held h k) 64 = eqB g h k) := eqB_held g h k h64
                go_wp2_with fail
                go_loopw [11, 12] (fun s i wx => ∃ j nq : Nat, j ≤ k ∧ i = .int .i64 j ∧ s = .bool (eqB g h j) ∧ wx = wr.drewN nq) (fun _ i _ => k - (intOf i).toNat)
                case atStart => exact ⟨0, 0, Nat.zero_le _, rfl, rfl, rfl⟩
                case round =>
                  obtain ⟨j, nq, hj, rfl, rfl, rfl⟩ := hrel
                  by_cases hjk : j < k
                  · obtain ⟨b, off, rfl, hlb, hc⟩ := hacc j hjk
                    obtain ⟨b2, off2, rfl, hlb2, hc2⟩ := hacc' j hjk
                    have hc' := (hBq.cell (p := ⟨b, off + j, none⟩) hlb).trans hc
                    have hc2' := (hBq.cell (p := ⟨b2, off2 + j, none⟩) hlb2).trans hc2
                    have hji : (j : Int) < (k : Int) := by omega
                    clear hc hc2
                    by_cases hE : g j = h j
                    · have E1 : Hid (eqB g h (j + 1) = eqB g h j) := eqB_yes hE
                      go_wp2_with fail
                      go_quiet (fail)
                      go_wp2
                      go_roundw
                      case rel => exact ⟨j + 1, _, by omega, by go_num, by rw [E1.out], rfl⟩
                      case measure => simp [intOf]; omega
                    · have E1 : Hid (eqB g h (j + 1) = false) := eqB_no hE
                      have hE' : ((g j != h j) = true) := by simpa using hE
                      go_wp2_with fail
                      go_quiet (fail)
                      go_wp2
                      go_roundw
                      case rel => exact ⟨j + 1, _, by omega, by go_num, by rw [E1.out], rfl⟩
                      case measure => simp [intOf]; omega
                  · have hjk' : j = k := by omega
                    subst hjk'
                    go_wp2
                    go_ret
                    refine ⟨ret_bool ?_, below_drewN hBq _⟩
                    rw [E2.out]
                    simp
              · have hkm' : ((k : Int) == (m : Int)) = false := beq_false_of_ne (by omega)
                go_wp2
                go_ret
                exact ⟨rfl, hBq⟩
end Go.Proofs.Qxb6614269a
