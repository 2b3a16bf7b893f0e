/-
  THE WALK of 'sb1Middle' at a text that opens and closes as the message does.
-/
import Derived.Test.Qxb6614040aFmtRows
import Derived.WalkKit
import Derived.WalkSpells
import Derived.Deep.QuietTactic
import Derived.BigQuiet
namespace Go.Proofs.Qxb6614040aFmt
open Go.RowKit

set_option maxHeartbeats 400000 in
theorem mid_any (s : ByteArray) (w : World) (hs : 32 ≤ s.size) (hs2 : s.size ≤ 100)
    (hp : Hid (∀ k (h1 : k < 21) (h : k < s.size), s[k].toNat = ((⟨#[109, 117, 115, 116, 32, 98, 101, 32, 110, 111, 32, 109, 111, 114, 101, 32, 116, 104, 97, 110, 32]⟩ : ByteArray)[k]'h1).toNat))
    (hq : Hid (∀ k (h1 : k < 11) (h : s.size - 11 + k < s.size), s[s.size - 11 + k].toNat = ((⟨#[32, 99, 104, 97, 114, 97, 99, 116, 101, 114, 115]⟩ : ByteArray)[k]'h1).toNat)) :
    Calls Tryf.prog 5 #[.string s] w fun e w' => e = .returned (.tuple #[.string (s.extract 21 (s.size - 11)), .bool true]) ∧ ∃ n, w' = w.drewN n := by
  go_enter Tryf.func5, Tryf.ntmps5
  go_wp2
  go_loopw [4] (fun i wr => ∃ k nq : Nat, k ≤ 21 ∧ i = .int .i64 k ∧ wr = w.drewN nq) (fun i _ => 21 - (intOf i).toNat)
  case atStart => exact ⟨0, 0, Nat.zero_le _, rfl, rfl⟩
  case round =>
    obtain ⟨k, nq, hk, rfl, rfl⟩ := hrel
    by_cases hlt : k < 21
    · have hb := hp.out k hlt (by omega)
      go_wp2
      go_quiet (fail)
      go_wp2
      go_roundw
      case rel => exact ⟨k + 1, _, by omega, by go_num, rfl⟩
      case measure => simp [intOf]; omega
    · go_wp2
      go_loopw [6] (fun i wr => ∃ k nq : Nat, k ≤ 11 ∧ i = .int .i64 k ∧ wr = w.drewN nq) (fun i _ => 11 - (intOf i).toNat)
      case atStart => exact ⟨0, nq, Nat.zero_le _, rfl, rfl⟩
      case round =>
        obtain ⟨j, nr, hj, rfl, rfl⟩ := hrel
        by_cases hlj : j < 11
        · have hb := hq.out j hlj (by omega)
          have e1 : ((s.size : Int) - 11 + (j : Int)).toNat = s.size - 11 + j := by omega
          go_wp2
          go_quiet (fail)
          go_wp2
          go_roundw
          case rel => exact ⟨j + 1, _, by omega, by go_num, rfl⟩
          case measure => simp [intOf]; omega
        · go_wp2
          go_ret2
          exact ⟨rfl, _, rfl⟩
end Go.Proofs.Qxb6614040aFmt
