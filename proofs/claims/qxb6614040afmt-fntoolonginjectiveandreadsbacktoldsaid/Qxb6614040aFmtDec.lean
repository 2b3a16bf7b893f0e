/-
  THE WALK of 'sb1IsDecimalOf' at the canonical decimal.
-/
import Derived.Test.Qxb6614040aFmtRows
import Derived.Test.Qxb6614040aFmtPlain
import Derived.WalkKit
import Derived.WalkSpells
namespace Go.Proofs.Qxb6614040aFmt
open Go.RowKit

/-- The digits from 'off' on, read up to place k. -/
def V (d : ByteArray) (off k : Nat) : Nat := Plain.val ((d.data.toList.drop off).take (k - off))

theorem V_off (d : ByteArray) (off : Nat) : V d off off = 0 := by simp [V, Plain.val]
theorem V_succ (d : ByteArray) (off k : Nat) (h1 : off ≤ k) (h2 : k < d.size) : V d off (k + 1) = V d off k * 10 + (d[k].toNat - 48) := by
  have hl : k - off < (d.data.toList.drop off).length := by simp [List.length_drop]; omega
  unfold V
  rw [show k + 1 - off = (k - off) + 1 from by omega, Plain.val_take_succ _ _ hl]
  have : (d.data.toList.drop off)[k - off] = d[k] := by
    rw [List.getElem_drop]
    simp only [show off + (k - off) = k from by omega]
    rfl
  rw [this]
theorem V_le (d : ByteArray) (off k : Nat) : V d off k ≤ Plain.val (d.data.toList.drop off) := Plain.val_take_le _ _
theorem V_all (d : ByteArray) (off : Nat) : V d off d.size = Plain.val (d.data.toList.drop off) := by
  unfold V
  rw [List.take_of_length_le (by simp [List.length_drop])]

theorem ret_bool {a b : Bool} (h : a = b) : Ending.returned (.bool a) = .returned (.bool b) := by rw [h]
theorem u64_of {a b : Int} (h : a = b) : Value.int .u64 a = .int .u64 b := by rw [h]

set_option maxHeartbeats 400000 in
theorem dec_pos (d : ByteArray) (n : Int) (w : World) (h0 : 0 ≤ n) (h1 : n ≤ 9223372036854775807) (hs0 : 0 < d.size) (hs : d.size ≤ 20)
    (hm : d[0].toNat ≠ 45) (hz : d[0].toNat = 48 → d.size = 1)
    (hdig : ∀ k (h : k < d.size), 48 ≤ d[k].toNat ∧ d[k].toNat ≤ 57) (hv : Hid (Plain.val (d.data.toList.drop 0) = n.toNat)) :
    Calls Tryf.prog 6 #[.string d, .int .i64 n] w fun e w' => e = .returned (.bool true) ∧ w' = w := by
  have hne : ¬ d = ByteArray.empty := by intro h; subst h; simp at hs0
  go_enter Tryf.func6, Tryf.ntmps6
  go_wp2
  all_goals
    clear hz hm hne
    go_loop [6, 7] (fun i m => ∃ k : Nat, k ≤ d.size ∧ i = .int .i64 k ∧ m = .int .u64 (V d 0 k)) (fun i _ => d.size - (intOf i).toNat)
    case atStart => exact ⟨0, Nat.zero_le _, rfl, rfl⟩
    case round =>
      obtain ⟨k, hk, rfl, rfl⟩ := hrel
      by_cases hlt : k < d.size
      · have hb := hdig k hlt
        have hle := V_le d 0 (k + 1)
        rw [hv.out] at hle
        have hsu : Hid (V d 0 (k + 1) = V d 0 k * 10 + (d[k].toNat - 48)) := V_succ d 0 k (Nat.zero_le _) hlt
        have hle2 : V d 0 k * 10 + (d[k].toNat - 48) ≤ n.toNat := by have := hsu.out; omega
        clear hle
        go_wp2
        go_round
        case rel => first | exact ⟨k + 1, by omega, by go_num, u64_of (by rw [hsu.out]; omega)⟩ | exact ⟨_, _, _, ⟨k + 1, by omega, by go_num, u64_of (by rw [hsu.out]; omega)⟩, rfl, rfl, rfl⟩
        case measure => simp [intOf]; omega
      · go_wp2
        go_ret
        refine ⟨ret_bool ?_, rfl⟩
        have hk' : k = d.size := by omega
        rw [hk', V_all, hv.out]
        simp only [beq_iff_eq]
        omega

set_option maxHeartbeats 400000 in
theorem dec_neg (d : ByteArray) (n : Int) (w : World) (h0 : n < 0) (h1 : -9223372036854775808 ≤ n) (hs0 : 1 < d.size) (hs : d.size ≤ 20)
    (hm : d[0].toNat = 45) (hz : d[1].toNat ≠ 48)
    (hdig : ∀ k (h : k < d.size), 1 ≤ k → 48 ≤ d[k].toNat ∧ d[k].toNat ≤ 57) (hv : Hid (Plain.val (d.data.toList.drop 1) = n.natAbs)) :
    Calls Tryf.prog 6 #[.string d, .int .i64 n] w fun e w' => e = .returned (.bool true) ∧ w' = w := by
  have hne : ¬ d = ByteArray.empty := by intro h; subst h; simp at hs0
  go_enter Tryf.func6, Tryf.ntmps6
  go_wp2
  all_goals
    clear hz hm hne
    go_loop [6, 7] (fun i m => ∃ k : Nat, 1 ≤ k ∧ k ≤ d.size ∧ i = .int .i64 k ∧ m = .int .u64 (V d 1 k)) (fun i _ => d.size - (intOf i).toNat)
    case atStart => exact ⟨1, Nat.le_refl _, by omega, rfl, rfl⟩
    case round =>
      obtain ⟨k, hk1, hk, rfl, rfl⟩ := hrel
      by_cases hlt : k < d.size
      · have hb := hdig k hlt hk1
        have hle := V_le d 1 (k + 1)
        rw [hv.out] at hle
        have hsu : Hid (V d 1 (k + 1) = V d 1 k * 10 + (d[k].toNat - 48)) := V_succ d 1 k hk1 hlt
        have hle2 : V d 1 k * 10 + (d[k].toNat - 48) ≤ n.natAbs := by have := hsu.out; omega
        clear hle
        go_wp2
        go_round
        case rel => first | exact ⟨k + 1, by omega, by omega, by go_num, u64_of (by rw [hsu.out]; omega)⟩ | exact ⟨_, _, _, ⟨k + 1, by omega, by omega, by go_num, u64_of (by rw [hsu.out]; omega)⟩, rfl, rfl, rfl⟩
        case measure => simp [intOf]; omega
      · go_wp2
        go_ret
        refine ⟨ret_bool ?_, rfl⟩
        have hk' : k = d.size := by omega
        rw [hk', V_all, hv.out]
        simp only [beq_iff_eq]
        omega
end Go.Proofs.Qxb6614040aFmt
