/-
  THE WALKS of zzb1CloneInts and zzb1SameInts.
-/
import Derived.Test.Qxb6614403aRows
import Derived.WalkKit
import Derived.WalkSpells
import Derived.Below
import Derived.Deep.OwnRows
import Derived.Deep.QuietTactic
import Derived.BigQuiet
namespace Go.Proofs.Qxb6614403a
open Go.RowKit

/-- The slice value at 'a', of n elements, reads as g 0, g 1, ..; 'z' says whether it is nil. -/
def IsInts (w : World) (a : Option Addr) (n : Nat) (g : Nat → Int) (z : Bool) : Prop :=
  a.isNone = z ∧ (z = true → n = 0) ∧ ∀ k, k < n → ∃ b off, a = some ⟨b, off, none⟩ ∧ b < w.heap.size ∧ w.cell? ⟨b, off + k, none⟩ = some (.int .i64 (g k))

theorem IsInts.later {w w1 : World} {a : Option Addr} {n : Nat} {g : Nat → Int} {z : Bool} (h : IsInts w a n g z) (hB : Below w.heap.size w w1) : IsInts w1 a n g z :=
  ⟨h.1, h.2.1, fun k hk => by
    obtain ⟨b, off, e, hlt, hc⟩ := h.2.2 k hk
    exact ⟨b, off, e, Nat.lt_of_lt_of_le hlt hB.size, (hB.cell (p := ⟨b, off + k, none⟩) hlt).trans hc⟩⟩

theorem info3 : (Try.prog.info? 3).map (fun i => (i.zero, i.size, i.bytes)) = some (some (.int .i64 0), 1, 8) := by kernel_rfl

/-- Block B holds a row of n cells that may be written; the first k are g 0, g 1, .. -/
def Row (w : World) (B n k : Nat) (g : Nat → Int) : Prop :=
  (∀ j, j < n → (∃ v, w.cell? ⟨B, j, none⟩ = some v) ∧ w.frozen? ⟨B, j, none⟩ = false) ∧ ∀ j, j < k → w.cell? ⟨B, j, none⟩ = some (.int .i64 (g j))

theorem ne_off {b i j : Nat} (h : i ≠ j) : (⟨b, i, none⟩ : Addr) ≠ ⟨b, j, none⟩ := by
  intro e
  injection e
  contradiction

theorem row_made (w : World) (n : Nat) (g : Nat → Int) : Row (w.alloc (.cells (madeCells #[.int .i64 0] n) 3)) w.heap.size n 0 g := by
  refine ⟨fun j hj => ⟨?_, by simp⟩, fun j hj => absurd hj (Nat.not_lt_zero j)⟩
  rw [World.cell?_alloc_new]
  exact ⟨_, Array.getElem?_eq_getElem (by rw [size_madeCells]; exact hj)⟩

theorem row_set {w : World} {B n k : Nat} {g : Nat → Int} (h : Row w B n k g) (hk : k < n) : Row (w.setCell ⟨B, k, none⟩ (.int .i64 (g k))) B n (k + 1) g := by
  obtain ⟨h1, h2⟩ := h
  refine ⟨fun j hj => ⟨?_, ?_⟩, fun j hj => ?_⟩
  · obtain ⟨v, hv⟩ := (h1 j hj).1
    by_cases e : j = k
    · subst e; exact ⟨_, World.cell?_setCell_same _ _ _ hv⟩
    · exact ⟨v, (World.cell?_setCell_other _ _ _ _ (ne_off (by omega))).trans hv⟩
  · rw [World.frozen?_setCell]; exact (h1 j hj).2
  · by_cases e : j = k
    · subst e
      obtain ⟨v, hv⟩ := (h1 j hk).1
      exact World.cell?_setCell_same _ _ _ hv
    · exact (World.cell?_setCell_other _ _ _ _ (ne_off (by omega))).trans (h2 j (by omega))

set_option maxHeartbeats 400000 in
theorem clone_some (x : Addr) (n c : Nat) (g : Nat → Int) (w : World) (hn : n ≤ 131072) (h : IsInts w (some x) n g false) :
    Calls Try.prog 12 #[.slice (some x) n c] w fun e w' => e = .returned (.slice (some ⟨w.heap.size, 0, none⟩) n n) ∧ IsInts w' (some ⟨w.heap.size, 0, none⟩) n g false ∧ Below w.heap.size w w' := by
  have hmk := run_make_row' (P := Try.prog) 28 3 (.int .i64 0) 8 Try.underlying28 info3 rfl .i64 .i64 n (by omega) (by omega)
  have hnil := fun (wx : World) => Lib.run_eql_slice_nil (P := Try.prog) wx 28 3 (some x) n c 0 0 Try.underlying28
  go_enter Try.func12, Try.ntmps12
  go_wp2
  clear hmk hnil
  go_loopw [4] (fun i wr => ∃ k : Nat, k ≤ n ∧ i = .int .i64 k ∧ Below w.heap.size w wr ∧ w.heap.size < wr.heap.size ∧ Row wr w.heap.size n k g) (fun i _ => n - (intOf i).toNat)
  case atStart => exact ⟨0, Nat.zero_le _, rfl, (Below.refl _ _).alloc (Nat.le_refl _) _, by simp, row_made w n g⟩
  case round =>
    obtain ⟨k, hk, rfl, hB, hs, hr⟩ := hrel
    by_cases hlt : k < n
    · obtain ⟨b, off, e, hlb, hc⟩ := h.2.2 k hlt
      obtain rfl : x = ⟨b, off, none⟩ := Option.some.inj e
      have hc' := (hB.cell (p := ⟨b, off + k, none⟩) hlb).trans hc
      obtain ⟨⟨v, hv⟩, hf⟩ := hr.1 k hlt
      have H : Hid (Row (wr.setCell ⟨w.heap.size, k, none⟩ (.int .i64 (g k))) w.heap.size n (k + 1) g) := row_set hr hlt
      have HB : Hid (Below w.heap.size w (wr.setCell ⟨w.heap.size, k, none⟩ (.int .i64 (g k)))) := hB.setCell (p := ⟨w.heap.size, k, none⟩) (Nat.le_refl _) _
      clear e
      go_wp2
      go_roundw
      case rel => exact ⟨k + 1, by omega, by go_num, HB.out, by simpa using hs, H.out⟩
      case measure => simp [intOf]; omega
    · have hkn : k = n := by omega
      subst hkn
      go_wp2
      go_ret
      exact ⟨rfl, ⟨rfl, fun e => Bool.noConfusion e, fun j hj => ⟨_, 0, rfl, hs, by rw [Nat.zero_add]; exact hr.2 j hj⟩⟩, hB⟩

theorem clone_none (w : World) :
    Calls Try.prog 12 #[.slice none 0 0] w fun e w' => e = .returned (.slice none 0 0) ∧ w' = w := by
  have hnil := fun (wx : World) => Lib.run_eql_slice_nil (P := Try.prog) wx 28 3 none 0 0 0 0 Try.underlying28
  go_enter Try.func12, Try.ntmps12
  go_wp2
  go_ret
  exact ⟨rfl, rfl⟩

theorem clone_any (a : Option Addr) (n c : Nat) (g : Nat → Int) (z : Bool) (w : World) (hn : n ≤ 131072) (h : IsInts w a n g z) (hc : z = true → c = 0) :
    Calls Try.prog 12 #[.slice a n c] w fun e w' => ∃ a' c', e = .returned (.slice a' n c') ∧ (z = true → c' = 0) ∧ IsInts w' a' n g z ∧ Below w.heap.size w w' := by
  cases a with
  | none =>
    obtain rfl : z = true := h.1.symm
    obtain rfl := h.2.1 rfl
    obtain rfl := hc rfl
    refine (clone_none w).mono ?_
    rintro e w' ⟨rfl, hw⟩
    subst w'
    exact ⟨none, 0, rfl, fun _ => rfl, h, Below.refl _ _⟩
  | some x =>
    obtain rfl : z = false := h.1.symm
    refine (clone_some x n c g w hn h).mono ?_
    rintro e w' ⟨rfl, h1, h2⟩
    exact ⟨_, n, rfl, fun e => Bool.noConfusion e, h1, h2⟩

set_option maxHeartbeats 400000 in
theorem same_any (a b : Option Addr) (n c d : Nat) (g : Nat → Int) (z : Bool) (w : World) (hn : n ≤ 131072) (h : IsInts w a n g z) (h' : IsInts w b n g z) :
    Calls Try.prog 18 #[.slice a n c, .slice b n d] w fun e w' => e = .returned (.bool true) ∧ ∃ q, w' = w.drewN q := by
  have hnil : ∀ (wx : World), (binOp .eql 28 (.slice a n c) (.slice none 0 0)).run Try.prog wx = .ok (.bool z) wx := fun wx => by
    rw [Lib.run_eql_slice_nil (P := Try.prog) wx 28 3 a n c 0 0 Try.underlying28, h.1]
  have hnil' : ∀ (wx : World), (binOp .eql 28 (.slice b n d) (.slice none 0 0)).run Try.prog wx = .ok (.bool z) wx := fun wx => by
    rw [Lib.run_eql_slice_nil (P := Try.prog) wx 28 3 b n d 0 0 Try.underlying28, h'.1]
  go_enter Try.func18, Try.ntmps18
  go_wp2
  clear hnil hnil'
  go_loopw [5] (fun i wr => ∃ k q : Nat, k ≤ n ∧ i = .int .i64 k ∧ wr = w.drewN q) (fun i _ => n - (intOf i).toNat)
  case atStart => exact ⟨0, 0, Nat.zero_le _, rfl, rfl⟩
  case round =>
    obtain ⟨k, q, hk, rfl, rfl⟩ := hrel
    by_cases hlt : k < n
    · obtain ⟨b1, off1, rfl, hlb1, hc1⟩ := h.2.2 k hlt
      obtain ⟨b2, off2, rfl, hlb2, hc2⟩ := h'.2.2 k hlt
      have hji : (k : Int) < (n : Int) := by omega
      go_wp2_with fail
      go_quiet (fail)
      go_wp2
      go_roundw
      case rel => exact ⟨k + 1, _, by omega, by go_num, rfl⟩
      case measure => simp [intOf]; omega
    · go_wp2
      go_ret
      exact ⟨rfl, _, rfl⟩
end Go.Proofs.Qxb6614403a
