/- The walks of Reg.String, RegText and FnRegText: each register from 0 to 63 has the text 'regT' tells; they are unlike. -/
import Derived.Test.YtjaobaeacjgbaaaDoorShelf
import Derived.WalkKit
import Derived.KernelRfl
import Derived.Below
namespace Go.Proofs.YtjaobaeacjgbaaaDoor.Txt
open Go.RowKit
theorem hidden {p : Prop} (h : p) : Hid p := h
theorem ret_bool {a b : Bool} (h : a = b) : Ending.returned (.bool a) = .returned (.bool b) := by rw [h]
/-- A number's decimal digits. -/
def dd (i : Int) : ByteArray := ⟨(Lib.decDigits i.toNat).toArray⟩
def ddSmall : Bool := (List.range 100).all fun i => decide ((dd i).size ≤ 2)
theorem ddSmall_is : ddSmall = true := by kernel_rfl
theorem dd_size (i : Int) (h0 : 0 ≤ i) (h1 : i < 100) : (dd i).size ≤ 2 := by
  obtain ⟨i, rfl⟩ := Int.eq_ofNat_of_zero_le h0
  have h := ddSmall_is
  unfold ddSmall at h
  rw [List.all_eq_true] at h
  exact of_decide_eq_true (h i (by simp; omega))
theorem small (i : Int) (h0 : 0 ≤ i) (h1 : i < 100) (w : World) :
    Calls Tryd.prog 26 #[.int .i64 i, .int .i64 10] w fun e w' => e = .returned (.string (dd i)) ∧ w' = w := by
  unfold dd
  obtain ⟨i, rfl⟩ := Int.eq_ofNat_of_zero_le h0
  exact Tryd.strconv_FormatInt_10_small i (by omega) w

/-- A register's text. -/
def regT (r : Int) : ByteArray :=
  if r = 0 then ⟨#[36, 122, 101, 114, 111]⟩ else if r = 1 then ⟨#[36, 114, 97]⟩ else if r = 2 then ⟨#[36, 116, 112]⟩ else if r = 3 then ⟨#[36, 115, 112]⟩ else if r ≤ 11 then (⟨#[36, 97]⟩ : ByteArray) ++ dd (r - 4)
  else if r ≤ 20 then (⟨#[36, 116]⟩ : ByteArray) ++ dd (r - 12)
  else if r = 21 then ⟨#[36, 114, 50, 49]⟩ else if r = 22 then ⟨#[36, 102, 112]⟩ else if r ≤ 31 then (⟨#[36, 115]⟩ : ByteArray) ++ dd (r - 23)
  else if r ≤ 39 then (⟨#[36, 102, 97]⟩ : ByteArray) ++ dd (r - 32)
  else if r ≤ 55 then (⟨#[36, 102, 116]⟩ : ByteArray) ++ dd (r - 40)
  else (⟨#[36, 102, 115]⟩ : ByteArray) ++ dd (r - 56)

theorem reg0 (w : World) : Calls Tryd.prog 25 #[.int .u16 0] w fun e w' => e = .returned (.string ⟨#[36, 122, 101, 114, 111]⟩) ∧ w' = w := by
  go_enter Tryd.func25, Tryd.ntmps25
  go_wp2
  go_ret
  exact ⟨rfl, rfl⟩
theorem reg1 (w : World) : Calls Tryd.prog 25 #[.int .u16 1] w fun e w' => e = .returned (.string ⟨#[36, 114, 97]⟩) ∧ w' = w := by
  go_enter Tryd.func25, Tryd.ntmps25
  go_wp2
  go_ret
  exact ⟨rfl, rfl⟩
theorem reg2 (w : World) : Calls Tryd.prog 25 #[.int .u16 2] w fun e w' => e = .returned (.string ⟨#[36, 116, 112]⟩) ∧ w' = w := by
  go_enter Tryd.func25, Tryd.ntmps25
  go_wp2
  go_ret
  exact ⟨rfl, rfl⟩
theorem reg3 (w : World) : Calls Tryd.prog 25 #[.int .u16 3] w fun e w' => e = .returned (.string ⟨#[36, 115, 112]⟩) ∧ w' = w := by
  go_enter Tryd.func25, Tryd.ntmps25
  go_wp2
  go_ret
  exact ⟨rfl, rfl⟩
theorem reg4 (r : Int) (w : World) (h0 : 4 ≤ r) (h1 : r ≤ 11) : Calls Tryd.prog 25 #[.int .u16 r] w fun e w' => e = .returned (.string (⟨#[36, 97]⟩ ++ dd (r - 4))) ∧ w' = w := by
  have hs := dd_size (r - 4) (by omega) (by omega)
  go_enter Tryd.func25, Tryd.ntmps25
  go_wp2_with (go_at_call 26; refine (small (r - 4) (by omega) (by omega) _).mono ?_; rintro e w' ⟨rfl, rfl⟩)
  go_ret
  exact ⟨rfl, rfl⟩
theorem reg12 (r : Int) (w : World) (h0 : 12 ≤ r) (h1 : r ≤ 20) : Calls Tryd.prog 25 #[.int .u16 r] w fun e w' => e = .returned (.string (⟨#[36, 116]⟩ ++ dd (r - 12))) ∧ w' = w := by
  have hs := dd_size (r - 12) (by omega) (by omega)
  go_enter Tryd.func25, Tryd.ntmps25
  go_wp2_with (go_at_call 26; refine (small (r - 12) (by omega) (by omega) _).mono ?_; rintro e w' ⟨rfl, rfl⟩)
  go_ret
  exact ⟨rfl, rfl⟩
theorem reg21 (w : World) : Calls Tryd.prog 25 #[.int .u16 21] w fun e w' => e = .returned (.string ⟨#[36, 114, 50, 49]⟩) ∧ w' = w := by
  go_enter Tryd.func25, Tryd.ntmps25
  go_wp2
  go_ret
  exact ⟨rfl, rfl⟩
theorem reg22 (w : World) : Calls Tryd.prog 25 #[.int .u16 22] w fun e w' => e = .returned (.string ⟨#[36, 102, 112]⟩) ∧ w' = w := by
  go_enter Tryd.func25, Tryd.ntmps25
  go_wp2
  go_ret
  exact ⟨rfl, rfl⟩
theorem reg23 (r : Int) (w : World) (h0 : 23 ≤ r) (h1 : r ≤ 31) : Calls Tryd.prog 25 #[.int .u16 r] w fun e w' => e = .returned (.string (⟨#[36, 115]⟩ ++ dd (r - 23))) ∧ w' = w := by
  have hs := dd_size (r - 23) (by omega) (by omega)
  go_enter Tryd.func25, Tryd.ntmps25
  go_wp2_with (go_at_call 26; refine (small (r - 23) (by omega) (by omega) _).mono ?_; rintro e w' ⟨rfl, rfl⟩)
  go_ret
  exact ⟨rfl, rfl⟩
theorem reg32 (r : Int) (w : World) (h0 : 32 ≤ r) (h1 : r ≤ 39) : Calls Tryd.prog 25 #[.int .u16 r] w fun e w' => e = .returned (.string (⟨#[36, 102, 97]⟩ ++ dd (r - 32))) ∧ w' = w := by
  have hs := dd_size (r - 32) (by omega) (by omega)
  go_enter Tryd.func25, Tryd.ntmps25
  go_wp2_with (go_at_call 26; refine (small (r - 32) (by omega) (by omega) _).mono ?_; rintro e w' ⟨rfl, rfl⟩)
  go_ret
  exact ⟨rfl, rfl⟩
theorem reg40 (r : Int) (w : World) (h0 : 40 ≤ r) (h1 : r ≤ 55) : Calls Tryd.prog 25 #[.int .u16 r] w fun e w' => e = .returned (.string (⟨#[36, 102, 116]⟩ ++ dd (r - 40))) ∧ w' = w := by
  have hs := dd_size (r - 40) (by omega) (by omega)
  go_enter Tryd.func25, Tryd.ntmps25
  go_wp2_with (go_at_call 26; refine (small (r - 40) (by omega) (by omega) _).mono ?_; rintro e w' ⟨rfl, rfl⟩)
  go_ret
  exact ⟨rfl, rfl⟩
theorem reg56 (r : Int) (w : World) (h0 : 56 ≤ r) (h1 : r ≤ 63) : Calls Tryd.prog 25 #[.int .u16 r] w fun e w' => e = .returned (.string (⟨#[36, 102, 115]⟩ ++ dd (r - 56))) ∧ w' = w := by
  have hs := dd_size (r - 56) (by omega) (by omega)
  go_enter Tryd.func25, Tryd.ntmps25
  go_wp2_with (go_at_call 26; refine (small (r - 56) (by omega) (by omega) _).mono ?_; rintro e w' ⟨rfl, rfl⟩)
  go_ret
  exact ⟨rfl, rfl⟩
theorem reg_any (r : Int) (w : World) (h0 : 0 ≤ r) (h1 : r ≤ 63) : Calls Tryd.prog 25 #[.int .u16 r] w fun e w' => e = .returned (.string (regT r)) ∧ w' = w := by
  unfold regT
  by_cases c0 : r = 0
  · subst c0; exact reg0 w
  rw [if_neg c0]
  by_cases c1 : r = 1
  · subst c1; exact reg1 w
  rw [if_neg c1]
  by_cases c2 : r = 2
  · subst c2; exact reg2 w
  rw [if_neg c2]
  by_cases c3 : r = 3
  · subst c3; exact reg3 w
  rw [if_neg c3]
  by_cases c4 : r ≤ 11
  · rw [if_pos c4]; exact reg4 r w (by omega) c4
  rw [if_neg c4]
  by_cases c12 : r ≤ 20
  · rw [if_pos c12]; exact reg12 r w (by omega) c12
  rw [if_neg c12]
  by_cases c21 : r = 21
  · subst c21; exact reg21 w
  rw [if_neg c21]
  by_cases c22 : r = 22
  · subst c22; exact reg22 w
  rw [if_neg c22]
  by_cases c23 : r ≤ 31
  · rw [if_pos c23]; exact reg23 r w (by omega) c23
  rw [if_neg c23]
  by_cases c32 : r ≤ 39
  · rw [if_pos c32]; exact reg32 r w (by omega) c32
  rw [if_neg c32]
  by_cases c40 : r ≤ 55
  · rw [if_pos c40]; exact reg40 r w (by omega) c40
  rw [if_neg c40]
  exact reg56 r w (by omega) h1
theorem regtext_any (r : Int) (w : World) (h0 : 0 ≤ r) (h1 : r ≤ 63) : Calls Tryd.prog 17 #[.int .i64 r] w fun e w' => e = .returned (.string (regT r)) ∧ w' = w := by
  go_enter Tryd.func17, Tryd.ntmps17
  go_wp2_with (go_at_call 25; refine (reg_any r _ h0 h1).mono ?_; rintro e w' ⟨rfl, rfl⟩)
  go_ret
  exact ⟨rfl, rfl⟩

def regCell (a b : Nat) : Bool := decide (0 < (regT a).size) && (((regT a).toList == (regT b).toList) == ((a : Int) == (b : Int)))
def regAll : Bool := (List.range 64).all fun a => (List.range 64).all fun b => regCell a b
theorem regAll_is : regAll = true := by kernel_rfl
theorem reg_unlike (a b : Int) (a0 : 0 ≤ a) (a1 : a ≤ 63) (b0 : 0 ≤ b) (b1 : b ≤ 63) : 0 < (regT a).size ∧ (((regT a).toList == (regT b).toList) == (a == b)) = true := by
  obtain ⟨a, rfl⟩ := Int.eq_ofNat_of_zero_le a0
  obtain ⟨b, rfl⟩ := Int.eq_ofNat_of_zero_le b0
  have h := regAll_is
  unfold regAll at h
  rw [List.all_eq_true] at h
  have h1 := h a (by simp; omega)
  rw [List.all_eq_true] at h1
  have h2 := h1 b (by simp; omega)
  unfold regCell at h2
  rw [Bool.and_eq_true] at h2
  exact ⟨of_decide_eq_true h2.1, h2.2⟩
theorem law8 (a b : Int) (w : World) (a0 : 0 ≤ a) (a1 : a ≤ 63) (b0 : 0 ≤ b) (b1 : b ≤ 63) : Calls Tryd.prog 8 #[.int .i64 a, .int .i64 b] w fun e w' => e = .returned (.bool true) ∧ w' = w := by
  obtain ⟨hs, hu⟩ := reg_unlike a b a0 a1 b0 b1
  have HU : Hid ((((regT a).toList == (regT b).toList) == (a == b)) = true) := hidden hu
  clear hu
  go_enter Tryd.func8, Tryd.ntmps8
  go_wp2_with (go_at_call 17; refine (regtext_any _ _ (by omega) (by omega)).mono ?_; rintro e w' ⟨rfl, rfl⟩)
  go_ret
  exact ⟨ret_bool HU.out, rfl⟩

theorem out8_0 (a b : Int) (w : World)  (_ : a < 0) : Calls Tryd.prog 8 #[.int .i64 a, .int .i64 b] w fun e w' => e = .returned (.bool true) ∧ w' = w := by
  go_enter Tryd.func8, Tryd.ntmps8
  go_wp2
  go_ret
  exact ⟨rfl, rfl⟩
theorem out8_1 (a b : Int) (w : World) (_ : 0 ≤ a) (_ : 63 < a) : Calls Tryd.prog 8 #[.int .i64 a, .int .i64 b] w fun e w' => e = .returned (.bool true) ∧ w' = w := by
  go_enter Tryd.func8, Tryd.ntmps8
  go_wp2
  go_ret
  exact ⟨rfl, rfl⟩
theorem out8_2 (a b : Int) (w : World) (_ : 0 ≤ a) (_ : a ≤ 63) (_ : b < 0) : Calls Tryd.prog 8 #[.int .i64 a, .int .i64 b] w fun e w' => e = .returned (.bool true) ∧ w' = w := by
  go_enter Tryd.func8, Tryd.ntmps8
  go_wp2
  go_ret
  exact ⟨rfl, rfl⟩
theorem out8_3 (a b : Int) (w : World) (_ : 0 ≤ a) (_ : a ≤ 63) (_ : 0 ≤ b) (_ : 63 < b) : Calls Tryd.prog 8 #[.int .i64 a, .int .i64 b] w fun e w' => e = .returned (.bool true) ∧ w' = w := by
  go_enter Tryd.func8, Tryd.ntmps8
  go_wp2
  go_ret
  exact ⟨rfl, rfl⟩
theorem walk8 (a b : Int) (w : World) : Calls Tryd.prog 8 #[.int .i64 a, .int .i64 b] w fun e w' => e = .returned (.bool true) ∧ w' = w := by
  by_cases h0 : a < 0
  · exact out8_0 a b w  h0
  by_cases h1 : 63 < a
  · exact out8_1 a b w (by omega) h1
  by_cases h2 : b < 0
  · exact out8_2 a b w (by omega) (by omega) h2
  by_cases h3 : 63 < b
  · exact out8_3 a b w (by omega) (by omega) (by omega) h3
  exact law8 a b w (by omega) (by omega) (by omega) (by omega)

theorem bel8 (a b : Int) (w : World) : Calls Tryd.prog 8 #[.int .i64 a, .int .i64 b] w fun e w' => e = .returned (.bool true) ∧ Below w.heap.size w w' :=
  (walk8 a b w).mono fun _ _ h => ⟨h.1, by rw [h.2]; exact Below.refl _ _⟩
end Go.Proofs.YtjaobaeacjgbaaaDoor.Txt
