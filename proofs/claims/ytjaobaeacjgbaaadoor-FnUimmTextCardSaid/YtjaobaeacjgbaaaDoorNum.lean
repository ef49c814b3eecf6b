/- Decimal numerals: unlike numbers have unlike numerals; the reference's recursion writes the same digits. Plain Lean, no program. -/
import Derived.Lib.ItoaNum
import Derived.Lib.ItoaMem
import Derived.Lib.ItoaLen
namespace Go.Proofs.YtjaobaeacjgbaaaDoor.Txt
open Go.Lib
/-- A number's decimal numeral, as Go's strings hold it. -/
def tx (n : Int) : ByteArray := ⟨(itoa n).toArray⟩
/-- What digits tell. -/
def val : List UInt8 → Nat := List.foldl (fun a c => 10 * a + (c.toNat - 48)) 0
theorem val_snoc (l : List UInt8) (c : UInt8) : val (l ++ [c]) = 10 * val l + (c.toNat - 48) := by simp [val, List.foldl_append]
theorem dig_toNat (d : Nat) (h : d < 10) : (UInt8.ofNat (48 + d)).toNat = 48 + d := by rw [UInt8.toNat_ofNat']; exact Nat.mod_eq_of_lt (by omega)
theorem val_dec : ∀ (u : Nat), val (decDigits u) = u := by
  intro u
  induction u using Nat.strongRecOn with
  | _ u ih =>
    by_cases h : u < 10
    · rw [decDigits, dif_pos h]
      have := val_snoc [] (UInt8.ofNat (48 + u))
      rw [dig_toNat u h] at this
      simpa [val] using this
    · rw [decDigits, dif_neg h, val_snoc, ih (u / 10) (by omega), dig_toNat _ (by omega)]
      omega
theorem dec_digits : ∀ (u : Nat), ∀ c ∈ decDigits u, 48 ≤ c.toNat := by
  intro u
  induction u using Nat.strongRecOn with
  | _ u ih =>
    intro c hc
    by_cases h : u < 10
    · rw [decDigits, dif_pos h] at hc
      obtain rfl : c = UInt8.ofNat (48 + u) := by simpa using hc
      rw [dig_toNat u h]
      omega
    · rw [decDigits, dif_neg h] at hc
      rcases List.mem_append.1 hc with hc | hc
      · exact ih (u / 10) (by omega) c hc
      · obtain rfl : c = UInt8.ofNat (48 + u % 10) := by simpa using hc
        rw [dig_toNat _ (by omega)]
        omega
theorem dec_inj {u v : Nat} (h : decDigits u = decDigits v) : u = v := by rw [← val_dec u, ← val_dec v, h]
theorem dec_no_sign (u : Nat) (l : List UInt8) : decDigits u ≠ 45 :: l := by
  intro h
  have := dec_digits u 45 (by rw [h]; simp)
  simp at this
theorem itoa_inj {m n : Int} (h : itoa m = itoa n) : m = n := by
  unfold itoa at h
  by_cases hm : m < 0 <;> by_cases hn : n < 0
  · rw [if_pos hm, if_pos hn] at h
    have := dec_inj (List.cons.inj h).2
    omega
  · rw [if_pos hm, if_neg hn] at h
    exact absurd h.symm (dec_no_sign _ _)
  · rw [if_neg hm, if_pos hn] at h
    exact absurd h (dec_no_sign _ _)
  · rw [if_neg hm, if_neg hn] at h
    have := dec_inj h
    omega
theorem tx_toList (n : Int) : (tx n).toList = itoa n := by rw [ByteArray.toList_eq]; simp [tx]
theorem tx_unlike (m n : Int) : (((tx m).toList == (tx n).toList) == (m == n)) = true := by
  rw [tx_toList, tx_toList]
  by_cases h : m = n
  · subst h; simp
  · have h2 : ¬ itoa m = itoa n := fun e => h (itoa_inj e)
    rw [beq_eq_false_iff_ne.2 h2, beq_eq_false_iff_ne.2 h]; rfl
theorem dec_length_pos (u : Nat) : 0 < (decDigits u).length := by
  rw [decDigits]
  split <;> simp
theorem tx_size (n : Int) (h0 : -9223372036854775808 ≤ n) (h1 : n ≤ 9223372036854775807) : 0 < (tx n).size ∧ (tx n).size ≤ 21 := by
  have e : (tx n).size = (itoa n).length := by simp [tx, ByteArray.size]
  rw [e]
  refine ⟨?_, itoa_length_le n h0 h1⟩
  unfold itoa
  split
  · simp
  · exact dec_length_pos _

/-- A number's digits, as the reference's recursion makes them. -/
def dg10 (n : Int) : ByteArray := ⟨(decDigits n.toNat).toArray⟩
theorem dg10_eq (n : Int) (h : 0 ≤ n) : dg10 n = tx n := by
  unfold dg10 tx itoa
  rw [if_neg (by omega)]
theorem dg10_neg (n : Int) (h : n < 0) : (⟨#[45]⟩ : ByteArray) ++ dg10 (-n) = tx n := by
  unfold dg10 tx itoa
  rw [if_pos h, show (-n).toNat = n.natAbs by omega]
  apply ByteArray.ext
  simp
theorem dg10_step (n : Int) (h : 10 ≤ n) : dg10 (n / 10) ++ dg10 (n % 10) = dg10 n := by
  obtain ⟨u, rfl⟩ := Int.eq_ofNat_of_zero_le (show 0 ≤ n by omega)
  unfold dg10
  rw [show ((u : Int) / 10).toNat = u / 10 by omega, show ((u : Int) % 10).toNat = u % 10 by omega, show ((u : Int)).toNat = u by omega]
  conv => rhs; rw [decDigits, dif_neg (by omega)]
  rw [decDigits_one (show u % 10 < 10 by omega)]
  apply ByteArray.ext
  simp
theorem dg10_size (n : Int) (h0 : 0 ≤ n) (h1 : n ≤ 9223372036854775807) : (dg10 n).size ≤ 21 := by
  rw [dg10_eq n h0]
  exact (tx_size n (by omega) h1).2
end Go.Proofs.YtjaobaeacjgbaaaDoor.Txt
