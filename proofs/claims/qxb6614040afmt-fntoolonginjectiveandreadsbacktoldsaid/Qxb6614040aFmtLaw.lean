/-
  THE LAW's WALK: the message, its middle, the decimal read back.
-/
import Derived.Test.Qxb6614040aFmtDec
import Derived.Test.Qxb6614040aFmtMid
import Derived.Test.Qxb6614040aFmtCall
import Derived.WalkSmall
namespace Go.Proofs.Qxb6614040aFmt
open Go.RowKit Go.Kit Go.Extern.Stop Go.Stop Go.Extern

def decB (n : Int) : ByteArray := ⟨(Lib.itoa n).toArray⟩

theorem itoa_pos (n : Int) : 0 < (Lib.itoa n).length := by
  unfold Lib.itoa
  split
  · simp
  · exact Plain.dec_pos _

theorem size_msgB (n : Int) : (msgB n).size = 32 + (Lib.itoa n).length := by
  show (msg n).toArray.size = _
  simp [msg]; omega

theorem getB (s : ByteArray) (l : List UInt8) (hs : s.data.toList = l) (k : Nat) (h : k < s.size) (hl : k < l.length) : s[k] = l[k] := by
  subst hs
  show s.data[k]'h = s.data.toList[k]
  simp
theorem data_msgB (n : Int) : (msgB n).data.toList = msg n := by simp [msgB]
theorem data_decB (n : Int) : (decB n).data.toList = Lib.itoa n := by simp [decB]
theorem len_msg (n : Int) : (msg n).length = 32 + (Lib.itoa n).length := by simp [msg]; omega

theorem msg_pre (n : Int) (k : Nat) (h1 : k < 21) (h : k < (msgB n).size) : (msgB n)[k].toNat = ((⟨#[109, 117, 115, 116, 32, 98, 101, 32, 110, 111, 32, 109, 111, 114, 101, 32, 116, 104, 97, 110, 32]⟩ : ByteArray)[k]'h1).toNat := by
  have e : (msgB n)[k] = [109, 117, 115, 116, 32, 98, 101, 32, 110, 111, 32, 109, 111, 114, 101, 32, 116, 104, 97, 110, 32][k]'h1 := by
    rw [getB (msgB n) (msg n) (data_msgB n) k h (by have := size_msgB n; rw [len_msg]; omega)]
    unfold msg
    rw [List.getElem_append_left (by simp; omega), List.getElem_append_left h1]
  rw [e]
  rfl

theorem get_suf (p m q : List UInt8) (k j : Nat) (hj : j < (p ++ m ++ q).length) (e : j = p.length + m.length + k) (hk : k < q.length) : (p ++ m ++ q)[j] = q[k] := by
  subst e
  rw [List.getElem_append_right (by simp)]
  congr 1
  simp

theorem msg_suf (n : Int) (k : Nat) (h1 : k < 11) (h : (msgB n).size - 11 + k < (msgB n).size) : ((msgB n)[(msgB n).size - 11 + k]).toNat = ((⟨#[32, 99, 104, 97, 114, 97, 99, 116, 101, 114, 115]⟩ : ByteArray)[k]'h1).toNat := by
  have hz := size_msgB n
  have hi : (msgB n).size - 11 + k = 21 + (Lib.itoa n).length + k := by omega
  have e : (msgB n)[(msgB n).size - 11 + k] = [32, 99, 104, 97, 114, 97, 99, 116, 101, 114, 115][k]'h1 := by
    rw [getB (msgB n) (msg n) (data_msgB n) _ h (by rw [len_msg]; omega)]
    exact get_suf [109, 117, 115, 116, 32, 98, 101, 32, 110, 111, 32, 109, 111, 114, 101, 32, 116, 104, 97, 110, 32] (Lib.itoa n) [32, 99, 104, 97, 114, 97, 99, 116, 101, 114, 115] k _ (by have := len_msg n; unfold msg at this; omega) (by simpa using hi) h1
  rw [e]
  rfl

theorem msg_mid (n : Int) : (msgB n).extract 21 ((msgB n).size - 11) = decB n := by
  apply ByteArray.ext
  apply Array.toList_inj.1
  have hz := size_msgB n
  simp only [ByteArray.data_extract, hz]
  simp [msgB, msg, decB]
  rw [List.take_append_of_le_length (by omega), List.take_of_length_le (by omega)]

theorem mid_msg (n : Int) (w : World) (hw : (Lit.int .i64 n).wf = true) :
    Calls Tryf.prog 5 #[.string (msgB n)] w fun e w' => e = .returned (.tuple #[.string (decB n), .bool true]) ∧ ∃ q, w' = w.drewN q := by
  have l := FmtText.itoa_length_le hw
  have hz := size_msgB n
  have := mid_any (msgB n) w (by omega) (by omega) (msg_pre n) (msg_suf n)
  rwa [msg_mid] at this

theorem dec_msg (n : Int) (w : World) (hw : (Lit.int .i64 n).wf = true) :
    Calls Tryf.prog 6 #[.string (decB n), .int .i64 n] w fun e w' => e = .returned (.bool true) ∧ w' = w := by
  obtain ⟨b1, b2, b3, _⟩ := FmtText.int_bounds64 hw
  have b3' := b3 rfl
  by_cases hn : n < 0
  · have e : Lib.itoa n = 45 :: Lib.decDigits n.natAbs := by unfold Lib.itoa; rw [if_pos hn]
    have hsz : (decB n).size = 1 + (Lib.decDigits n.natAbs).length := by
      show (Lib.itoa n).toArray.size = _
      rw [e]; simp; omega
    have hl := Plain.dec_length_le n.natAbs (by omega)
    have hp := Plain.dec_pos n.natAbs
    have g : ∀ k (h : k < (decB n).size), (decB n)[k] = (45 :: Lib.decDigits n.natAbs)[k]'(by simp; omega) := by
      intro k h
      have := getB (decB n) _ ((data_decB n).trans e) k h (by first | (simp; omega) | omega)
      exact this
    refine dec_neg (decB n) n w hn (by omega) (by omega) (by omega) ?_ ?_ ?_ ?_
    · rw [g]; rfl
    · rw [g]
      exact Plain.dec_head n.natAbs (by omega) hp
    · intro k h hk
      rw [g]
      obtain ⟨j, rfl⟩ : ∃ j, k = j + 1 := ⟨k - 1, by omega⟩
      exact Plain.dec_range n.natAbs _ (by rw [List.getElem_cons_succ]; exact List.getElem_mem _)
    · show Plain.val _ = _
      have : (decB n).data.toList = 45 :: Lib.decDigits n.natAbs := by simp [decB, e]
      rw [this, List.drop_succ_cons, List.drop_zero, Plain.val_dec]
  · have e : Lib.itoa n = Lib.decDigits n.toNat := by unfold Lib.itoa; rw [if_neg hn]
    have hsz : (decB n).size = (Lib.decDigits n.toNat).length := by
      show (Lib.itoa n).toArray.size = _
      rw [e]; simp
    have hl := Plain.dec_length_le n.toNat (by omega)
    have hp := Plain.dec_pos n.toNat
    have g : ∀ k (h : k < (decB n).size), (decB n)[k] = (Lib.decDigits n.toNat)[k]'(by omega) := by
      intro k h
      have := getB (decB n) _ ((data_decB n).trans e) k h (by first | (simp; omega) | omega)
      exact this
    have hr : ∀ k (h : k < (decB n).size), 48 ≤ (decB n)[k].toNat ∧ (decB n)[k].toNat ≤ 57 := by
      intro k h
      rw [g]
      exact Plain.dec_range n.toNat _ (List.getElem_mem _)
    refine dec_pos (decB n) n w (by omega) (by omega) (by omega) (by omega) ?_ ?_ hr ?_
    · have := hr 0 (by omega); omega
    · intro hz
      rw [g] at hz
      by_cases h0 : 0 < n.toNat
      · exact absurd hz (Plain.dec_head n.toNat h0 hp)
      · rw [hsz, show n.toNat = 0 from by omega, Plain.dec_small (by decide)]; rfl
    · show Plain.val _ = _
      have : (decB n).data.toList = Lib.decDigits n.toNat := by simp [decB, e]
      rw [this, List.drop_zero, Plain.val_dec]

theorem msgB_inj {a b : Int} (h : msgB a = msgB b) : a = b := by
  have h1 := congrArg (fun s => s.data.toList) h
  simp only [msgB, msg] at h1
  have h2 := List.append_cancel_right h1
  exact Plain.itoa_inj (List.append_cancel_left h2)

theorem same_msg (a b : Int) : (((msgB a).toList == (msgB b).toList) == (a == b)) = true := by
  rw [ByteArray.toList_eq, ByteArray.toList_eq]
  by_cases h : a = b
  · subst h; simp
  · have hne : (msgB a).data.toList ≠ (msgB b).data.toList := fun h' => h (msgB_inj (ByteArray.ext (Array.toList_inj.1 h')))
    have e1 : ((msgB a).data.toList == (msgB b).data.toList) = false := by simpa using hne
    have e2 : (a == b) = false := by simpa using h
    rw [e1, e2]
    rfl

set_option maxHeartbeats 400000 in
theorem law (F : Interp) (a b : Int) (w : World) (hF : F.told.answers w.tape) (wa : (Lit.int .i64 a).wf = true) (wb : (Lit.int .i64 b).wf = true) :
    Calls Tryf.prog 3 #[.int .i64 a, .int .i64 b] w fun e w' => e = .returned (.bool true) ∧ Below w.heap.size w w' := by
  go_enter Tryf.func3, Tryf.ntmps3
  go_wp2_with fail
  refine (zz_told F a _ hF wa).mono ?_; rintro e w' ⟨rfl, rfl⟩
  go_wp2_with fail
  refine (zz_told F b _ (by exact hF) wb).mono ?_; rintro e w' ⟨rfl, rfl⟩
  go_wp2_with fail
  refine (mid_msg a _ wa).mono ?_; rintro e w' ⟨rfl, q1, rfl⟩
  go_wp2_with fail
  refine (mid_msg b _ wb).mono ?_; rintro e w' ⟨rfl, q2, rfl⟩
  go_wp2_with fail
  refine (dec_msg a _ wa).mono ?_; rintro e w' ⟨rfl, rfl⟩
  go_wp2_with fail
  refine (dec_msg b _ wb).mono ?_; rintro e w' ⟨rfl, rfl⟩
  go_wp2
  go_ret
  exact ⟨ret_bool (same_msg a b), below_drewN (((Below.refl _ _).alloc (Nat.le_refl _) _).alloc (by simp) _) _⟩

end Go.Proofs.Qxb6614040aFmt
