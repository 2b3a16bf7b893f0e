/-
  THE PLAIN LAW of the decimal numeral that 'sb1IsDecimalOf' reads back: no Go in sight.
-/
import Derived.Lib.ItoaNum
namespace Go.Proofs.Qxb6614040aFmt.Plain
open Go.Lib

/-- What a row of digits is worth. -/
def val (l : List UInt8) : Nat := l.foldl (fun m c => m * 10 + (c.toNat - 48)) 0

theorem foldl_ge (l : List UInt8) (m : Nat) : m ≤ l.foldl (fun m c => m * 10 + (c.toNat - 48)) m := by
  induction l generalizing m with
  | nil => simp
  | cons c l ih => simp only [List.foldl_cons]; exact Nat.le_trans (by omega) (ih _)

theorem val_take_le (l : List UInt8) (k : Nat) : val (l.take k) ≤ val l := by
  have h : val l = (l.drop k).foldl (fun m c => m * 10 + (c.toNat - 48)) (val (l.take k)) := by
    unfold val
    rw [← List.foldl_append, List.take_append_drop]
  rw [h]
  exact foldl_ge _ _

theorem val_snoc (l : List UInt8) (c : UInt8) : val (l ++ [c]) = val l * 10 + (c.toNat - 48) := by
  unfold val
  rw [List.foldl_append]
  rfl

theorem val_take_succ (l : List UInt8) (k : Nat) (h : k < l.length) : val (l.take (k + 1)) = val (l.take k) * 10 + (l[k].toNat - 48) := by
  rw [List.take_succ_eq_append_getElem h, val_snoc]

theorem dec_small {u : Nat} (h : u < 10) : decDigits u = [UInt8.ofNat (48 + u)] := by rw [decDigits, dif_pos h]
theorem dec_big {u : Nat} (h : ¬ u < 10) : decDigits u = decDigits (u / 10) ++ [UInt8.ofNat (48 + u % 10)] := by rw [decDigits, dif_neg h]

theorem toNat_dig (u : Nat) (h : u < 10) : (UInt8.ofNat (48 + u)).toNat = 48 + u := by
  rw [UInt8.toNat_ofNat']
  exact Nat.mod_eq_of_lt (by omega)

theorem val_dec (u : Nat) : val (decDigits u) = u := by
  induction u using Nat.strongRecOn with
  | _ u ih =>
    by_cases h : u < 10
    · rw [dec_small h]
      simp only [val, List.foldl_cons, List.foldl_nil, toNat_dig u h]
      omega
    · rw [dec_big h, val_snoc, ih (u / 10) (by omega), toNat_dig _ (Nat.mod_lt _ (by decide))]
      omega

theorem dec_range (u : Nat) : ∀ c ∈ decDigits u, 48 ≤ c.toNat ∧ c.toNat ≤ 57 := by
  induction u using Nat.strongRecOn with
  | _ u ih =>
    by_cases h : u < 10
    · rw [dec_small h]
      intro c hc
      simp only [List.mem_singleton] at hc
      subst hc
      rw [toNat_dig u h]
      omega
    · rw [dec_big h]
      intro c hc
      rcases List.mem_append.1 hc with hc | hc
      · exact ih (u / 10) (by omega) c hc
      · simp only [List.mem_singleton] at hc
        subst hc
        rw [toNat_dig _ (Nat.mod_lt _ (by decide))]
        omega

theorem dec_pos (u : Nat) : 0 < (decDigits u).length := by
  by_cases h : u < 10
  · rw [dec_small h]; simp
  · rw [dec_big h]; simp

theorem dec_length (u : Nat) : (decDigits u).length = nDigits u := by
  induction u using Nat.strongRecOn with
  | _ u ih =>
    by_cases h : u < 10
    · rw [dec_small h, nDigits_small h]; rfl
    · rw [dec_big h, nDigits_big h, List.length_append, ih (u / 10) (by omega)]; rfl

theorem nDigits_le (k : Nat) : ∀ u : Nat, u < 10 ^ (k + 1) → nDigits u ≤ k + 1 := by
  induction k with
  | zero => intro u h; rw [nDigits_small (by simpa using h)]; exact Nat.le_refl _
  | succ k ih =>
    intro u h
    by_cases hs : u < 10
    · rw [nDigits_small hs]; omega
    · rw [nDigits_big hs]
      have := ih (u / 10) (by rw [Nat.pow_succ] at h; omega)
      omega

theorem dec_length_le (u : Nat) (h : u ≤ 9223372036854775808) : (decDigits u).length ≤ 19 := by
  rw [dec_length]
  exact nDigits_le 18 u (by omega)

theorem dec_head (u : Nat) (h0 : 0 < u) : ∀ h : 0 < (decDigits u).length, ((decDigits u)[0]'h).toNat ≠ 48 := by
  induction u using Nat.strongRecOn with
  | _ u ih =>
    by_cases h : u < 10
    · rw [dec_small h]
      intro _
      simp only [List.getElem_cons_zero]
      rw [toNat_dig u h]
      omega
    · rw [dec_big h]
      intro _
      rw [List.getElem_append_left (dec_pos _)]
      exact ih (u / 10) (by omega) (by omega) _

theorem itoa_inj {a b : Int} (h : itoa a = itoa b) : a = b := by
  unfold itoa at h
  by_cases ha : a < 0 <;> by_cases hb : b < 0
  · rw [if_pos ha, if_pos hb] at h
    have := congrArg val (List.cons.inj h).2
    rw [val_dec, val_dec] at this
    omega
  · rw [if_pos ha, if_neg hb] at h
    have := dec_range b.toNat 45 (by rw [← h]; simp)
    have e : (45 : UInt8).toNat = 45 := rfl
    rw [e] at this
    omega
  · rw [if_neg ha, if_pos hb] at h
    have := dec_range a.toNat 45 (by rw [h]; simp)
    have e : (45 : UInt8).toNat = 45 := rfl
    rw [e] at this
    omega
  · rw [if_neg ha, if_neg hb] at h
    have := congrArg val h
    rw [val_dec, val_dec] at this
    omega

end Go.Proofs.Qxb6614040aFmt.Plain
