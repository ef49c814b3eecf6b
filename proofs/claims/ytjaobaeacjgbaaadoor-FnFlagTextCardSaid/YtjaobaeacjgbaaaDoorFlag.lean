/- The walks of Fcc.String, Fcsr.String and FnFlagText: each flag from 0 to 7, and each status register from 0 to 3, has a text of its own. -/
import Derived.Test.YtjaobaeacjgbaaaDoorReg
namespace Go.Proofs.YtjaobaeacjgbaaaDoor.Txt
open Go.RowKit

def fccT (r : Int) : ByteArray := (⟨#[36, 102, 99, 99]⟩ : ByteArray) ++ dd r
theorem fcc_any (r : Int) (w : World) (h0 : 0 ≤ r) (h1 : r ≤ 7) : Calls Tryd.prog 20 #[.int .u8 r] w fun e w' => e = .returned (.string (⟨#[36, 102, 99, 99]⟩ ++ dd r)) ∧ w' = w := by
  have hs := dd_size r (by omega) (by omega)
  go_enter Tryd.func20, Tryd.ntmps20
  go_wp2_with (go_at_call 26; refine (small r (by omega) (by omega) _).mono ?_; rintro e w' ⟨rfl, rfl⟩)
  go_ret
  exact ⟨rfl, rfl⟩
theorem fcctext_any (r : Int) (w : World) (h0 : 0 ≤ r) (h1 : r ≤ 7) : Calls Tryd.prog 11 #[.int .i64 r] w fun e w' => e = .returned (.string (fccT r)) ∧ w' = w := by
  unfold fccT
  go_enter Tryd.func11, Tryd.ntmps11
  go_wp2_with (go_at_call 20; refine (fcc_any r _ h0 h1).mono ?_; rintro e w' ⟨rfl, rfl⟩)
  go_ret
  exact ⟨rfl, rfl⟩
def fccCell (a b : Nat) : Bool := decide (0 < (fccT a).size) && (((fccT a).toList == (fccT b).toList) == ((a : Int) == (b : Int)))
def fccAll : Bool := (List.range 8).all fun a => (List.range 8).all fun b => fccCell a b
theorem fccAll_is : fccAll = true := by kernel_rfl
theorem fcc_unlike (a b : Int) (a0 : 0 ≤ a) (a1 : a ≤ 7) (b0 : 0 ≤ b) (b1 : b ≤ 7) : 0 < (fccT a).size ∧ (((fccT a).toList == (fccT b).toList) == (a == b)) = true := by
  obtain ⟨a, rfl⟩ := Int.eq_ofNat_of_zero_le a0
  obtain ⟨b, rfl⟩ := Int.eq_ofNat_of_zero_le b0
  have h := fccAll_is
  unfold fccAll at h
  rw [List.all_eq_true] at h
  have h1 := h a (by simp; omega)
  rw [List.all_eq_true] at h1
  have h2 := h1 b (by simp; omega)
  unfold fccCell at h2
  rw [Bool.and_eq_true] at h2
  exact ⟨of_decide_eq_true h2.1, h2.2⟩

def fcsrT (r : Int) : ByteArray := (⟨#[36, 102, 99, 115, 114]⟩ : ByteArray) ++ dd r
theorem fcsr_any (r : Int) (w : World) (h0 : 0 ≤ r) (h1 : r ≤ 7) : Calls Tryd.prog 21 #[.int .u8 r] w fun e w' => e = .returned (.string (⟨#[36, 102, 99, 115, 114]⟩ ++ dd r)) ∧ w' = w := by
  have hs := dd_size r (by omega) (by omega)
  go_enter Tryd.func21, Tryd.ntmps21
  go_wp2_with (go_at_call 26; refine (small r (by omega) (by omega) _).mono ?_; rintro e w' ⟨rfl, rfl⟩)
  go_ret
  exact ⟨rfl, rfl⟩
theorem fcsrtext_any (r : Int) (w : World) (h0 : 0 ≤ r) (h1 : r ≤ 7) : Calls Tryd.prog 12 #[.int .i64 r] w fun e w' => e = .returned (.string (fcsrT r)) ∧ w' = w := by
  unfold fcsrT
  go_enter Tryd.func12, Tryd.ntmps12
  go_wp2_with (go_at_call 21; refine (fcsr_any r _ h0 h1).mono ?_; rintro e w' ⟨rfl, rfl⟩)
  go_ret
  exact ⟨rfl, rfl⟩
def fcsrCell (a b : Nat) : Bool := decide (0 < (fcsrT a).size) && (((fcsrT a).toList == (fcsrT b).toList) == ((a : Int) == (b : Int)))
def fcsrAll : Bool := (List.range 8).all fun a => (List.range 8).all fun b => fcsrCell a b
theorem fcsrAll_is : fcsrAll = true := by kernel_rfl
theorem fcsr_unlike (a b : Int) (a0 : 0 ≤ a) (a1 : a ≤ 7) (b0 : 0 ≤ b) (b1 : b ≤ 7) : 0 < (fcsrT a).size ∧ (((fcsrT a).toList == (fcsrT b).toList) == (a == b)) = true := by
  obtain ⟨a, rfl⟩ := Int.eq_ofNat_of_zero_le a0
  obtain ⟨b, rfl⟩ := Int.eq_ofNat_of_zero_le b0
  have h := fcsrAll_is
  unfold fcsrAll at h
  rw [List.all_eq_true] at h
  have h1 := h a (by simp; omega)
  rw [List.all_eq_true] at h1
  have h2 := h1 b (by simp; omega)
  unfold fcsrCell at h2
  rw [Bool.and_eq_true] at h2
  exact ⟨of_decide_eq_true h2.1, h2.2⟩

theorem flag_lo (a b : Int) (w : World) (a0 : 0 ≤ a) (a1 : a ≤ 7) (b0 : 0 ≤ b) (b1 : b ≤ 7) (a2 : a ≤ 3) (b2 : b ≤ 3) : Calls Tryd.prog 5 #[.int .i64 a, .int .i64 b] w fun e w' => e = .returned (.bool true) ∧ w' = w := by
  obtain ⟨hs, hu⟩ := fcc_unlike a b a0 a1 b0 b1
  obtain ⟨ht, hv⟩ := fcsr_unlike a b a0 a1 b0 b1
  go_enter Tryd.func5, Tryd.ntmps5
  go_wp2_with (first | (go_at_call 11; refine (fcctext_any _ _ (by omega) (by omega)).mono ?_; rintro e w' ⟨rfl, rfl⟩) | (go_at_call 12; refine (fcsrtext_any _ _ (by omega) (by omega)).mono ?_; rintro e w' ⟨rfl, rfl⟩))
  go_ret
  exact ⟨ret_bool (by first | rfl | exact hv), rfl⟩

theorem flag_hiA (a b : Int) (w : World) (a0 : 0 ≤ a) (a1 : a ≤ 7) (b0 : 0 ≤ b) (b1 : b ≤ 7) (a2 : 3 < a) : Calls Tryd.prog 5 #[.int .i64 a, .int .i64 b] w fun e w' => e = .returned (.bool true) ∧ w' = w := by
  obtain ⟨hs, hu⟩ := fcc_unlike a b a0 a1 b0 b1
  obtain ⟨ht, hv⟩ := fcsr_unlike a b a0 a1 b0 b1
  go_enter Tryd.func5, Tryd.ntmps5
  go_wp2_with (first | (go_at_call 11; refine (fcctext_any _ _ (by omega) (by omega)).mono ?_; rintro e w' ⟨rfl, rfl⟩) | (go_at_call 12; refine (fcsrtext_any _ _ (by omega) (by omega)).mono ?_; rintro e w' ⟨rfl, rfl⟩))
  go_ret
  exact ⟨ret_bool (by first | rfl | exact hv), rfl⟩

theorem flag_hiB (a b : Int) (w : World) (a0 : 0 ≤ a) (a1 : a ≤ 7) (b0 : 0 ≤ b) (b1 : b ≤ 7) (a2 : a ≤ 3) (b2 : 3 < b) : Calls Tryd.prog 5 #[.int .i64 a, .int .i64 b] w fun e w' => e = .returned (.bool true) ∧ w' = w := by
  obtain ⟨hs, hu⟩ := fcc_unlike a b a0 a1 b0 b1
  obtain ⟨ht, hv⟩ := fcsr_unlike a b a0 a1 b0 b1
  go_enter Tryd.func5, Tryd.ntmps5
  go_wp2_with (first | (go_at_call 11; refine (fcctext_any _ _ (by omega) (by omega)).mono ?_; rintro e w' ⟨rfl, rfl⟩) | (go_at_call 12; refine (fcsrtext_any _ _ (by omega) (by omega)).mono ?_; rintro e w' ⟨rfl, rfl⟩))
  go_ret
  exact ⟨ret_bool (by first | rfl | exact hv), rfl⟩

theorem out5_0 (a b : Int) (w : World)  (_ : a < 0) : Calls Tryd.prog 5 #[.int .i64 a, .int .i64 b] w fun e w' => e = .returned (.bool true) ∧ w' = w := by
  go_enter Tryd.func5, Tryd.ntmps5
  go_wp2
  go_ret
  exact ⟨rfl, rfl⟩
theorem out5_1 (a b : Int) (w : World) (_ : 0 ≤ a) (_ : 7 < a) : Calls Tryd.prog 5 #[.int .i64 a, .int .i64 b] w fun e w' => e = .returned (.bool true) ∧ w' = w := by
  go_enter Tryd.func5, Tryd.ntmps5
  go_wp2
  go_ret
  exact ⟨rfl, rfl⟩
theorem out5_2 (a b : Int) (w : World) (_ : 0 ≤ a) (_ : a ≤ 7) (_ : b < 0) : Calls Tryd.prog 5 #[.int .i64 a, .int .i64 b] w fun e w' => e = .returned (.bool true) ∧ w' = w := by
  go_enter Tryd.func5, Tryd.ntmps5
  go_wp2
  go_ret
  exact ⟨rfl, rfl⟩
theorem out5_3 (a b : Int) (w : World) (_ : 0 ≤ a) (_ : a ≤ 7) (_ : 0 ≤ b) (_ : 7 < b) : Calls Tryd.prog 5 #[.int .i64 a, .int .i64 b] w fun e w' => e = .returned (.bool true) ∧ w' = w := by
  go_enter Tryd.func5, Tryd.ntmps5
  go_wp2
  go_ret
  exact ⟨rfl, rfl⟩
theorem walk5 (a b : Int) (w : World) : Calls Tryd.prog 5 #[.int .i64 a, .int .i64 b] w fun e w' => e = .returned (.bool true) ∧ w' = w := by
  by_cases h0 : a < 0
  · exact out5_0 a b w  h0
  by_cases h1 : 7 < a
  · exact out5_1 a b w (by omega) h1
  by_cases h2 : b < 0
  · exact out5_2 a b w (by omega) (by omega) h2
  by_cases h3 : 7 < b
  · exact out5_3 a b w (by omega) (by omega) (by omega) h3
  by_cases ca : 3 < a
  · exact flag_hiA a b w (by omega) (by omega) (by omega) (by omega) ca
  by_cases cb : 3 < b
  · exact flag_hiB a b w (by omega) (by omega) (by omega) (by omega) (by omega) cb
  exact flag_lo a b w (by omega) (by omega) (by omega) (by omega) (by omega) (by omega)

theorem bel5 (a b : Int) (w : World) : Calls Tryd.prog 5 #[.int .i64 a, .int .i64 b] w fun e w' => e = .returned (.bool true) ∧ Below w.heap.size w w' :=
  (walk5 a b w).mono fun _ _ h => ⟨h.1, by rw [h.2]; exact Below.refl _ _⟩
end Go.Proofs.YtjaobaeacjgbaaaDoor.Txt
