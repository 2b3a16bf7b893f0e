/-
  THE WALKS of the path's small functions: ZZnewPath, push, ZZpathPush, ZZpathLen, ZZpathAt.
-/
import Derived.Test.Qxb6614269aRows
import Derived.WalkKit
import Derived.WalkSpells
import Derived.Below
import Derived.RegionTactic
import Derived.ChangeAlike
namespace Go.Proofs.Qxb6614269a
open Go.RowKit

/-- Block b holds a path: 64 places, the numbers f; the count n. -/
def IsPath (w : World) (b : Nat) (f : Nat → Int) (n : Nat) : Prop :=
  (∀ j, j < 64 → w.cell? ⟨b, j, none⟩ = some (.int .u32 (f j))) ∧ w.cell? ⟨b, 64, none⟩ = some (.int .i64 n) ∧ ∀ j, j < 65 → w.frozen? ⟨b, j, none⟩ = false

theorem len_any (w : World) (b : Nat) (f : Nat → Int) (n : Nat) (h : IsPath w b f n) :
    Calls Try.prog 8 #[.pointer (some ⟨b, 0, none⟩)] w fun e w' => e = .returned (.int .i64 n) ∧ w' = w := by
  have h64 := h.2.1
  go_enter Try.func8, Try.ntmps8
  go_wp2
  go_ret
  exact ⟨rfl, rfl⟩

theorem at_any (w : World) (b : Nat) (f : Nat → Int) (n j : Nat) (h : IsPath w b f n) (hj : j < 64) :
    Calls Try.prog 9 #[.pointer (some ⟨b, 0, none⟩), .int .i64 j] w fun e w' => e = .returned (.int .u32 (f j)) ∧ w' = w := by
  have hc := h.1 j hj
  go_enter Try.func9, Try.ntmps9
  go_wp2
  go_ret
  exact ⟨rfl, rfl⟩

theorem ne_off {b i j : Nat} (h : i ≠ j) : (⟨b, i, none⟩ : Addr) ≠ ⟨b, j, none⟩ := by
  intro e
  injection e
  contradiction

theorem path_set (w : World) (b : Nat) (f : Nat → Int) (n : Nat) (x : Int) (h : IsPath w b f n) (hn : n < 64) :
    IsPath ((w.setCell ⟨b, n, none⟩ (.int .u32 x)).setCell ⟨b, 64, none⟩ (.int .i64 ((n : Int) + 1))).drew b (fun j => if j = n then x else f j) (n + 1) := by
  obtain ⟨h1, h2, h3⟩ := h
  refine ⟨fun j hj => ?_, ?_, fun j hj => ?_⟩
  · rw [World.cell?_drew, World.cell?_setCell_other _ _ _ _ (ne_off (by omega))]
    show _ = some (Value.int .u32 (if j = n then x else f j))
    by_cases e : j = n
    · subst e
      rw [World.cell?_setCell_same _ _ _ (h1 j hj), if_pos rfl]
    · rw [World.cell?_setCell_other _ _ _ _ (ne_off (by omega)), h1 j hj, if_neg e]
  · rw [World.cell?_drew]
    have : (w.setCell ⟨b, n, none⟩ (.int .u32 x)).cell? ⟨b, 64, none⟩ = some (.int .i64 n) := by
      rw [World.cell?_setCell_other _ _ _ _ (ne_off (by omega)), h2]
    rw [World.cell?_setCell_same _ _ _ this]
    simp
  · simp [h3 j hj]

theorem below_set (w : World) (b n : Nat) (u v : Value) : Below b w ((w.setCell ⟨b, n, none⟩ u).setCell ⟨b, 64, none⟩ v).drew :=
  (((Below.refl b w).setCell (p := ⟨b, n, none⟩) (Nat.le_refl b) u).setCell (p := ⟨b, 64, none⟩) (Nat.le_refl b) v).drew

theorem push_any (w : World) (b : Nat) (f : Nat → Int) (n : Nat) (x : Int) (h : IsPath w b f n) (hn : n < 64) :
    Calls Try.prog 11 #[.pointer (some ⟨b, 0, none⟩), .int .u32 x] w fun e w' => e = .returned (.tuple #[]) ∧ IsPath w' b (fun j => if j = n then x else f j) (n + 1) ∧ Below b w w' ∧ w'.heap.size = w.heap.size := by
  have hc := h.1 n hn
  have h64 := h.2.1
  have f64 := h.2.2 64 (by omega)
  have fn := h.2.2 n (by omega)
  go_enter Try.func11, Try.ntmps11
  go_wp2
  go_region
  all_goals go_wp2
  all_goals
    go_end0
    exact ⟨rfl, path_set w b f n x h hn, below_set w b n _ _, by simp⟩

theorem zzpush_any (w : World) (b : Nat) (f : Nat → Int) (n : Nat) (x : Int) (h : IsPath w b f n) (hn : n < 64) :
    Calls Try.prog 7 #[.pointer (some ⟨b, 0, none⟩), .int .u32 x] w fun e w' => e = .returned (.tuple #[]) ∧ IsPath w' b (fun j => if j = n then x else f j) (n + 1) ∧ Below b w w' ∧ w'.heap.size = w.heap.size := by
  go_enter Try.func7, Try.ntmps7
  go_wp2_with fail
  refine (push_any w b f n x h hn).mono ?_
  rintro e w' ⟨rfl, h1, h2, h3⟩
  go_wp2
  go_end0
  exact ⟨rfl, h1, h2, h3⟩

/-- A path's 65 cells as they begin. -/
def zero65 : Array Value := #[.int .u32 0, .int .u32 0, .int .u32 0, .int .u32 0, .int .u32 0, .int .u32 0, .int .u32 0, .int .u32 0, .int .u32 0, .int .u32 0, .int .u32 0, .int .u32 0, .int .u32 0, .int .u32 0, .int .u32 0, .int .u32 0, .int .u32 0, .int .u32 0, .int .u32 0, .int .u32 0, .int .u32 0, .int .u32 0, .int .u32 0, .int .u32 0, .int .u32 0, .int .u32 0, .int .u32 0, .int .u32 0, .int .u32 0, .int .u32 0, .int .u32 0, .int .u32 0, .int .u32 0, .int .u32 0, .int .u32 0, .int .u32 0, .int .u32 0, .int .u32 0, .int .u32 0, .int .u32 0, .int .u32 0, .int .u32 0, .int .u32 0, .int .u32 0, .int .u32 0, .int .u32 0, .int .u32 0, .int .u32 0, .int .u32 0, .int .u32 0, .int .u32 0, .int .u32 0, .int .u32 0, .int .u32 0, .int .u32 0, .int .u32 0, .int .u32 0, .int .u32 0, .int .u32 0, .int .u32 0, .int .u32 0, .int .u32 0, .int .u32 0, .int .u32 0, .int .i64 0]
theorem zero34 (w : World) : (zeroValue 34).run Try.prog w = .ok (.agg zero65) w := by kernel_rfl

theorem zero65_is : zero65 = (List.replicate 64 (Value.int .u32 0) ++ [Value.int .i64 0]).toArray := by rfl
theorem zero65_at (j : Nat) (hj : j < 64) : zero65[j]? = some (.int .u32 0) := by
  rw [zero65_is, List.getElem?_toArray, List.getElem?_append_left (by simpa using hj), List.getElem?_replicate, if_pos hj]

theorem path_new (w : World) : IsPath (w.alloc (.cells zero65 34)) w.heap.size (fun _ => 0) 0 := by
  refine ⟨fun j hj => ?_, ?_, fun j _ => ?_⟩
  · rw [World.cell?_alloc_new]; exact zero65_at j hj
  · rw [World.cell?_alloc_new]; rfl
  · simp

theorem new_any (w : World) :
    Calls Try.prog 6 #[] w fun e w' => e = .returned (.pointer (some ⟨w.heap.size, 0, none⟩)) ∧ IsPath w' w.heap.size (fun _ => 0) 0 ∧ Below w.heap.size w w' ∧ w'.heap.size = w.heap.size + 1 := by
  have hz := zero34
  go_enter Try.func6, Try.ntmps6
  go_wp2
  go_ret
  exact ⟨rfl, path_new w, (Below.refl _ _).alloc (Nat.le_refl _) _, by simp⟩
end Go.Proofs.Qxb6614269a
