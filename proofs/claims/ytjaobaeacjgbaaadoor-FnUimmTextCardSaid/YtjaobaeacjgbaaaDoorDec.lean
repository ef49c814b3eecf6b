/- The walks of FnOffsetText, FnSimmText and FnUimmText and of what they call: texts in decimal digits. -/
import Derived.Test.YtjaobaeacjgbaaaDoorShelf
import Derived.Test.YtjaobaeacjgbaaaDoorNum
import Derived.Lib.AppendIntMem
import Derived.WalkKit
import Derived.KernelRfl
import Derived.Below
namespace Go.Proofs.YtjaobaeacjgbaaaDoor.Txt
open Go.RowKit
theorem hid {p : Prop} (h : p) : Hid p := h
theorem ret_true {a : Bool} (h : a = true) : Ending.returned (.bool a) = .returned (.bool true) := by rw [h]
/-- The table of powers lies there, and goes on lying there whatever is done from block B on. -/
abbrev Pow (B : Nat) (w : World) : Prop := Lib.TabBelow Tryd.prog B w "internal/strconv.uint64pow10" .u64 Lib.pow10Tab
theorem format (n : Int) (h0 : -9223372036854775808 ≤ n) (h1 : n ≤ 9223372036854775807) (B : Nat) (w0 w : World) (hp : Pow B w0) (hb : Below B w0 w) (hB : B ≤ w.heap.size) :
    Calls Tryd.prog 26 #[.int .i64 n, .int .i64 10] w fun e w' => e = .returned (.string (tx n)) ∧ Below B w0 w' ∧ B ≤ w'.heap.size := by
  refine (Tryd.strconv_FormatInt_10 n h0 h1 w (hp w hb)).mono ?_
  rintro e w' ⟨rfl, k, os, rfl⟩
  exact ⟨rfl, hb.trans (Lib.below_grow B w hB k os), Nat.le_trans hB (Lib.size_grow w k os)⟩

theorem off_str (n : Int) (k : Int) (h0 : -32768 ≤ n) (h1 : n ≤ 32767) (B : Nat) (w0 w : World) (hp : Pow B w0) (hb : Below B w0 w) (hB : B ≤ w.heap.size) :
    Calls Tryd.prog 18 #[.agg #[.int .i32 n, .int .u8 k]] w fun e w' => e = .returned (.string (tx n)) ∧ Below B w0 w' ∧ B ≤ w'.heap.size := by
  have HP : Hid (Pow B w0) := hid hp
  have HB : Hid (Below B w0 w) := hid hb
  clear hp hb
  go_enter Tryd.func18, Tryd.ntmps18
  go_wp2_with (go_at_call 26; refine (format n (by omega) (by omega) B w0 _ HP.out (HB.out.alloc hB _) (by simp; omega)).mono ?_; rintro e w' ⟨rfl, hb1, hB1⟩)
  go_ret
  exact ⟨rfl, hb1, hB1⟩

theorem off_text (n : Int) (h0 : -32768 ≤ n) (h1 : n ≤ 32767) (B : Nat) (w0 w : World) (hp : Pow B w0) (hb : Below B w0 w) (hB : B ≤ w.heap.size) :
    Calls Tryd.prog 9 #[.int .i64 n, .int .i64 16] w fun e w' => e = .returned (.string (tx n)) ∧ Below B w0 w' ∧ B ≤ w'.heap.size := by
  have HP : Hid (Pow B w0) := hid hp
  have HB : Hid (Below B w0 w) := hid hb
  clear hp hb
  go_enter Tryd.func9, Tryd.ntmps9
  go_wp2_with (go_at_call 18; refine (off_str n 16 (by omega) (by omega) B w0 _ HP.out HB.out hB).mono ?_; rintro e w' ⟨rfl, hb1, hB1⟩)
  go_ret
  exact ⟨rfl, hb1, hB1⟩

theorem s16_str (n : Int) (k : Int) (h0 : -2048 ≤ n) (h1 : n ≤ 2047) (B : Nat) (w0 w : World) (hp : Pow B w0) (hb : Below B w0 w) (hB : B ≤ w.heap.size) :
    Calls Tryd.prog 22 #[.agg #[.int .i16 n, .int .u8 k]] w fun e w' => e = .returned (.string (tx n)) ∧ Below B w0 w' ∧ B ≤ w'.heap.size := by
  have HP : Hid (Pow B w0) := hid hp
  have HB : Hid (Below B w0 w) := hid hb
  clear hp hb
  go_enter Tryd.func22, Tryd.ntmps22
  go_wp2_with (go_at_call 26; refine (format n (by omega) (by omega) B w0 _ HP.out (HB.out.alloc hB _) (by simp; omega)).mono ?_; rintro e w' ⟨rfl, hb1, hB1⟩)
  go_ret
  exact ⟨rfl, hb1, hB1⟩

theorem s16_text (n : Int) (h0 : -2048 ≤ n) (h1 : n ≤ 2047) (B : Nat) (w0 w : World) (hp : Pow B w0) (hb : Below B w0 w) (hB : B ≤ w.heap.size) :
    Calls Tryd.prog 14 #[.int .i64 n, .int .i64 12] w fun e w' => e = .returned (.string (tx n)) ∧ Below B w0 w' ∧ B ≤ w'.heap.size := by
  have HP : Hid (Pow B w0) := hid hp
  have HB : Hid (Below B w0 w) := hid hb
  clear hp hb
  go_enter Tryd.func14, Tryd.ntmps14
  go_wp2_with (go_at_call 22; refine (s16_str n 12 (by omega) (by omega) B w0 _ HP.out HB.out hB).mono ?_; rintro e w' ⟨rfl, hb1, hB1⟩)
  go_ret
  exact ⟨rfl, hb1, hB1⟩

theorem s32_str (n : Int) (k : Int) (h0 : -2048 ≤ n) (h1 : n ≤ 2047) (B : Nat) (w0 w : World) (hp : Pow B w0) (hb : Below B w0 w) (hB : B ≤ w.heap.size) :
    Calls Tryd.prog 23 #[.agg #[.int .i32 n, .int .u8 k]] w fun e w' => e = .returned (.string (tx n)) ∧ Below B w0 w' ∧ B ≤ w'.heap.size := by
  have HP : Hid (Pow B w0) := hid hp
  have HB : Hid (Below B w0 w) := hid hb
  clear hp hb
  go_enter Tryd.func23, Tryd.ntmps23
  go_wp2_with (go_at_call 26; refine (format n (by omega) (by omega) B w0 _ HP.out (HB.out.alloc hB _) (by simp; omega)).mono ?_; rintro e w' ⟨rfl, hb1, hB1⟩)
  go_ret
  exact ⟨rfl, hb1, hB1⟩

theorem s32_text (n : Int) (h0 : -2048 ≤ n) (h1 : n ≤ 2047) (B : Nat) (w0 w : World) (hp : Pow B w0) (hb : Below B w0 w) (hB : B ≤ w.heap.size) :
    Calls Tryd.prog 15 #[.int .i64 n, .int .i64 12] w fun e w' => e = .returned (.string (tx n)) ∧ Below B w0 w' ∧ B ≤ w'.heap.size := by
  have HP : Hid (Pow B w0) := hid hp
  have HB : Hid (Below B w0 w) := hid hb
  clear hp hb
  go_enter Tryd.func15, Tryd.ntmps15
  go_wp2_with (go_at_call 23; refine (s32_str n 12 (by omega) (by omega) B w0 _ HP.out HB.out hB).mono ?_; rintro e w' ⟨rfl, hb1, hB1⟩)
  go_ret
  exact ⟨rfl, hb1, hB1⟩

theorem uim_str (n : Int) (h0 : 0 ≤ n) (h1 : n ≤ 4294967295) (B : Nat) (w0 w : World) (hp : Pow B w0) (hb : Below B w0 w) (hB : B ≤ w.heap.size) :
    Calls Tryd.prog 24 #[.agg #[.int .u32 n, .bool true]] w fun e w' => e = .returned (.string (tx n)) ∧ Below B w0 w' ∧ B ≤ w'.heap.size := by
  have HP : Hid (Pow B w0) := hid hp
  have HB : Hid (Below B w0 w) := hid hb
  clear hp hb
  go_enter Tryd.func24, Tryd.ntmps24
  go_wp2_with (go_at_call 26; refine (format n (by omega) (by omega) B w0 _ HP.out (HB.out.alloc hB _) (by simp; omega)).mono ?_; rintro e w' ⟨rfl, hb1, hB1⟩)
  go_ret
  exact ⟨rfl, hb1, hB1⟩

theorem uim_text (n : Int) (h0 : 0 ≤ n) (h1 : n ≤ 4294967295) (B : Nat) (w0 w : World) (hp : Pow B w0) (hb : Below B w0 w) (hB : B ≤ w.heap.size) :
    Calls Tryd.prog 16 #[.int .i64 n, .bool true] w fun e w' => e = .returned (.string (tx n)) ∧ Below B w0 w' ∧ B ≤ w'.heap.size := by
  have HP : Hid (Pow B w0) := hid hp
  have HB : Hid (Below B w0 w) := hid hb
  clear hp hb
  go_enter Tryd.func16, Tryd.ntmps16
  go_wp2_with (go_at_call 24; refine (uim_str n (by omega) (by omega) B w0 _ HP.out HB.out hB).mono ?_; rintro e w' ⟨rfl, hb1, hB1⟩)
  go_ret
  exact ⟨rfl, hb1, hB1⟩

theorem digit_0 (w : World) : (Instr.slice 9 (.string ⟨#[48, 49, 50, 51, 52, 53, 54, 55, 56, 57]⟩) (some (.int .i64 0)) (some (.int .i64 (0 + 1))) none).run Tryd.prog w = .ok (.string (dg10 0)) w := by kernel_rfl
theorem digit_1 (w : World) : (Instr.slice 9 (.string ⟨#[48, 49, 50, 51, 52, 53, 54, 55, 56, 57]⟩) (some (.int .i64 1)) (some (.int .i64 (1 + 1))) none).run Tryd.prog w = .ok (.string (dg10 1)) w := by kernel_rfl
theorem digit_2 (w : World) : (Instr.slice 9 (.string ⟨#[48, 49, 50, 51, 52, 53, 54, 55, 56, 57]⟩) (some (.int .i64 2)) (some (.int .i64 (2 + 1))) none).run Tryd.prog w = .ok (.string (dg10 2)) w := by kernel_rfl
theorem digit_3 (w : World) : (Instr.slice 9 (.string ⟨#[48, 49, 50, 51, 52, 53, 54, 55, 56, 57]⟩) (some (.int .i64 3)) (some (.int .i64 (3 + 1))) none).run Tryd.prog w = .ok (.string (dg10 3)) w := by kernel_rfl
theorem digit_4 (w : World) : (Instr.slice 9 (.string ⟨#[48, 49, 50, 51, 52, 53, 54, 55, 56, 57]⟩) (some (.int .i64 4)) (some (.int .i64 (4 + 1))) none).run Tryd.prog w = .ok (.string (dg10 4)) w := by kernel_rfl
theorem digit_5 (w : World) : (Instr.slice 9 (.string ⟨#[48, 49, 50, 51, 52, 53, 54, 55, 56, 57]⟩) (some (.int .i64 5)) (some (.int .i64 (5 + 1))) none).run Tryd.prog w = .ok (.string (dg10 5)) w := by kernel_rfl
theorem digit_6 (w : World) : (Instr.slice 9 (.string ⟨#[48, 49, 50, 51, 52, 53, 54, 55, 56, 57]⟩) (some (.int .i64 6)) (some (.int .i64 (6 + 1))) none).run Tryd.prog w = .ok (.string (dg10 6)) w := by kernel_rfl
theorem digit_7 (w : World) : (Instr.slice 9 (.string ⟨#[48, 49, 50, 51, 52, 53, 54, 55, 56, 57]⟩) (some (.int .i64 7)) (some (.int .i64 (7 + 1))) none).run Tryd.prog w = .ok (.string (dg10 7)) w := by kernel_rfl
theorem digit_8 (w : World) : (Instr.slice 9 (.string ⟨#[48, 49, 50, 51, 52, 53, 54, 55, 56, 57]⟩) (some (.int .i64 8)) (some (.int .i64 (8 + 1))) none).run Tryd.prog w = .ok (.string (dg10 8)) w := by kernel_rfl
theorem digit_9 (w : World) : (Instr.slice 9 (.string ⟨#[48, 49, 50, 51, 52, 53, 54, 55, 56, 57]⟩) (some (.int .i64 9)) (some (.int .i64 (9 + 1))) none).run Tryd.prog w = .ok (.string (dg10 9)) w := by kernel_rfl
theorem digit_is (n : Int) (h0 : 0 ≤ n) (h1 : n < 10) (w : World) : (Instr.slice 9 (.string ⟨#[48, 49, 50, 51, 52, 53, 54, 55, 56, 57]⟩) (some (.int .i64 n)) (some (.int .i64 (n + 1))) none).run Tryd.prog w = .ok (.string (dg10 n)) w := by
  have h : n = 0 ∨ n = 1 ∨ n = 2 ∨ n = 3 ∨ n = 4 ∨ n = 5 ∨ n = 6 ∨ n = 7 ∨ n = 8 ∨ n = 9 := by omega
  rcases h with rfl | rfl | rfl | rfl | rfl | rfl | rfl | rfl | rfl | rfl
  · exact digit_0 w
  · exact digit_1 w
  · exact digit_2 w
  · exact digit_3 w
  · exact digit_4 w
  · exact digit_5 w
  · exact digit_6 w
  · exact digit_7 w
  · exact digit_8 w
  · exact digit_9 w
theorem digits_one (n : Int) (h0 : 0 ≤ n) (h1 : n < 10) (w : World) :
    Calls Tryd.prog 13 #[.int .i64 n] w fun e w' => e = .returned (.string (dg10 n)) ∧ w' = w := by
  have hd := digit_is n h0 h1 w
  go_enter Tryd.func13, Tryd.ntmps13
  go_wp2
  go_ret
  exact ⟨rfl, rfl⟩
theorem digits_any (k : Nat) : ∀ (n : Int) (w : World), 0 ≤ n → n ≤ 9223372036854775807 → n ≤ k →
    Calls Tryd.prog 13 #[.int .i64 n] w fun e w' => e = .returned (.string (dg10 n)) ∧ w' = w := by
  induction k with
  | zero => intro n w h0 _ hk; exact digits_one n h0 (by omega) w
  | succ k ih =>
    intro n w h0 h1 hk
    by_cases hlt : n < 10
    · exact digits_one n h0 hlt w
    · have s1 := dg10_size (n / 10) (by omega) (by omega)
      have s2 := dg10_size (n % 10) (by omega) (by omega)
      have HS : Hid (dg10 (n / 10) ++ dg10 (n % 10) = dg10 n) := hid (dg10_step n (by omega))
      go_enter Tryd.func13, Tryd.ntmps13
      go_wp2_with (go_at_call 13; refine (ih _ _ (by omega) (by omega) (by omega)).mono ?_; rintro e w' ⟨rfl, rfl⟩)
      go_ret
      exact ⟨by rw [HS.out]; rfl, rfl⟩
theorem digits (n : Int) (w : World) (h0 : 0 ≤ n) (h1 : n ≤ 9223372036854775807) : Calls Tryd.prog 13 #[.int .i64 n] w fun e w' => e = .returned (.string (dg10 n)) ∧ w' = w :=
  digits_any n.toNat n w h0 h1 (by omega)

theorem law3 (a b : Int) (w : World) (hp : Pow w.heap.size w) (a0 : -32768 ≤ a) (a1 : a ≤ 32767) (b0 : -32768 ≤ b) (b1 : b ≤ 32767) : Calls Tryd.prog 3 #[.int .i64 a, .int .i64 b] w fun e w' => e = .returned (.bool true) ∧ Below w.heap.size w w' := by
  have HP : Hid (Pow w.heap.size w) := hid hp
  have HU : Hid ((((tx a).toList == (tx b).toList) == (a == b)) = true) := hid (tx_unlike a b)
  have hs := (tx_size a (by omega) (by omega)).1
  have HB : Hid (Below w.heap.size w w) := hid (Below.refl _ _)
  clear hp
  go_enter Tryd.func3, Tryd.ntmps3
  go_wp2_with fail
  refine (off_text a (by omega) (by omega) w.heap.size w _ HP.out HB.out (Nat.le_refl _)).mono ?_
  rintro e w1 ⟨rfl, hb1, hB1⟩
  go_wp2_with fail
  refine (off_text b (by omega) (by omega) w.heap.size w _ HP.out hb1 hB1).mono ?_
  rintro e w2 ⟨rfl, hb2, hB2⟩
  go_wp2
  go_ret
  exact ⟨ret_true HU.out, hb2⟩

theorem law6_neg (n : Int) (w : World) (hp : Pow w.heap.size w) (h0 : -2048 ≤ n) (h1 : n ≤ 2047) (hn : n < 0) : Calls Tryd.prog 6 #[.int .i64 n] w fun e w' => e = .returned (.bool true) ∧ Below w.heap.size w w' := by
  have HP : Hid (Pow w.heap.size w) := hid hp
  have HE : Hid ((⟨#[45]⟩ : ByteArray) ++ dg10 (-n) = tx n) := hid (dg10_neg n hn)
  have hs := dg10_size (-n) (by omega) (by omega)
  have ht : ((tx n).toList == ((⟨#[45]⟩ : ByteArray) ++ dg10 (-n)).toList) = true := by rw [HE.out]; simp
  have HB : Hid (Below w.heap.size w w) := hid (Below.refl _ _)
  clear hp
  go_enter Tryd.func6, Tryd.ntmps6
  go_wp2_with fail
  refine (digits (-n) _ (by omega) (by omega)).mono ?_
  rintro e w' ⟨rfl, rfl⟩
  go_wp2_with fail
  refine (s16_text n (by omega) (by omega) w'.heap.size w' _ HP.out HB.out (Nat.le_refl _)).mono ?_
  rintro e w1 ⟨rfl, hb1, hB1⟩
  go_wp2_with fail
  refine (s32_text n (by omega) (by omega) w'.heap.size w' _ HP.out hb1 hB1).mono ?_
  rintro e w2 ⟨rfl, hb2, hB2⟩
  go_wp2
  go_ret
  exact ⟨ret_true (by first | rfl | exact ht), hb2⟩

theorem law6_pos (n : Int) (w : World) (hp : Pow w.heap.size w) (h0 : -2048 ≤ n) (h1 : n ≤ 2047) (hn : 0 ≤ n) : Calls Tryd.prog 6 #[.int .i64 n] w fun e w' => e = .returned (.bool true) ∧ Below w.heap.size w w' := by
  have HP : Hid (Pow w.heap.size w) := hid hp
  have HE : Hid (dg10 n = tx n) := hid (dg10_eq n hn)
  have hs := dg10_size (n) (by omega) (by omega)
  have ht : ((tx n).toList == (dg10 n).toList) = true := by rw [HE.out]; simp
  have HB : Hid (Below w.heap.size w w) := hid (Below.refl _ _)
  clear hp
  go_enter Tryd.func6, Tryd.ntmps6
  go_wp2_with fail
  refine (digits (n) _ (by omega) (by omega)).mono ?_
  rintro e w' ⟨rfl, rfl⟩
  go_wp2_with fail
  refine (s16_text n (by omega) (by omega) w'.heap.size w' _ HP.out HB.out (Nat.le_refl _)).mono ?_
  rintro e w1 ⟨rfl, hb1, hB1⟩
  go_wp2_with fail
  refine (s32_text n (by omega) (by omega) w'.heap.size w' _ HP.out hb1 hB1).mono ?_
  rintro e w2 ⟨rfl, hb2, hB2⟩
  go_wp2
  go_ret
  exact ⟨ret_true (by first | rfl | exact ht), hb2⟩

theorem law7 (n : Int) (w : World) (hp : Pow w.heap.size w) (h0 : 0 ≤ n) (h1 : n ≤ 4294967295) : Calls Tryd.prog 7 #[.int .i64 n] w fun e w' => e = .returned (.bool true) ∧ Below w.heap.size w w' := by
  have HP : Hid (Pow w.heap.size w) := hid hp
  have ht : ((tx n).toList == (dg10 n).toList) = true := by rw [dg10_eq n h0]; simp
  have HB : Hid (Below w.heap.size w w) := hid (Below.refl _ _)
  clear hp
  go_enter Tryd.func7, Tryd.ntmps7
  go_wp2_with (first | (go_at_call 13; refine (digits n _ (by omega) (by omega)).mono ?_; rintro e w' ⟨rfl, rfl⟩) | (go_at_call 16; refine (uim_text n (by omega) (by omega) w.heap.size w _ HP.out HB.out (Nat.le_refl _)).mono ?_; rintro e w1 ⟨rfl, hb1, hB1⟩))
  go_ret
  exact ⟨ret_true (by first | rfl | exact ht), hb1⟩

theorem out3_0 (a b : Int) (w : World)  (_ : a < -32768) : Calls Tryd.prog 3 #[.int .i64 a, .int .i64 b] w fun e w' => e = .returned (.bool true) ∧ Below w.heap.size w w' := by
  go_enter Tryd.func3, Tryd.ntmps3
  go_wp2
  go_ret
  exact ⟨rfl, Below.refl _ _⟩
theorem out3_1 (a b : Int) (w : World) (_ : -32768 ≤ a) (_ : 32767 < a) : Calls Tryd.prog 3 #[.int .i64 a, .int .i64 b] w fun e w' => e = .returned (.bool true) ∧ Below w.heap.size w w' := by
  go_enter Tryd.func3, Tryd.ntmps3
  go_wp2
  go_ret
  exact ⟨rfl, Below.refl _ _⟩
theorem out3_2 (a b : Int) (w : World) (_ : -32768 ≤ a) (_ : a ≤ 32767) (_ : b < -32768) : Calls Tryd.prog 3 #[.int .i64 a, .int .i64 b] w fun e w' => e = .returned (.bool true) ∧ Below w.heap.size w w' := by
  go_enter Tryd.func3, Tryd.ntmps3
  go_wp2
  go_ret
  exact ⟨rfl, Below.refl _ _⟩
theorem out3_3 (a b : Int) (w : World) (_ : -32768 ≤ a) (_ : a ≤ 32767) (_ : -32768 ≤ b) (_ : 32767 < b) : Calls Tryd.prog 3 #[.int .i64 a, .int .i64 b] w fun e w' => e = .returned (.bool true) ∧ Below w.heap.size w w' := by
  go_enter Tryd.func3, Tryd.ntmps3
  go_wp2
  go_ret
  exact ⟨rfl, Below.refl _ _⟩
theorem walk3 (a b : Int) (w : World) (hp : Pow w.heap.size w) : Calls Tryd.prog 3 #[.int .i64 a, .int .i64 b] w fun e w' => e = .returned (.bool true) ∧ Below w.heap.size w w' := by
  by_cases h0 : a < -32768
  · exact out3_0 a b w  h0
  by_cases h1 : 32767 < a
  · exact out3_1 a b w (by omega) h1
  by_cases h2 : b < -32768
  · exact out3_2 a b w (by omega) (by omega) h2
  by_cases h3 : 32767 < b
  · exact out3_3 a b w (by omega) (by omega) (by omega) h3
  exact law3 a b w hp (by omega) (by omega) (by omega) (by omega)

theorem out6_0 (n : Int) (w : World)  (_ : n < -2048) : Calls Tryd.prog 6 #[.int .i64 n] w fun e w' => e = .returned (.bool true) ∧ Below w.heap.size w w' := by
  go_enter Tryd.func6, Tryd.ntmps6
  go_wp2
  go_ret
  exact ⟨rfl, Below.refl _ _⟩
theorem out6_1 (n : Int) (w : World) (_ : -2048 ≤ n) (_ : 2047 < n) : Calls Tryd.prog 6 #[.int .i64 n] w fun e w' => e = .returned (.bool true) ∧ Below w.heap.size w w' := by
  go_enter Tryd.func6, Tryd.ntmps6
  go_wp2
  go_ret
  exact ⟨rfl, Below.refl _ _⟩
theorem walk6 (n : Int) (w : World) (hp : Pow w.heap.size w) : Calls Tryd.prog 6 #[.int .i64 n] w fun e w' => e = .returned (.bool true) ∧ Below w.heap.size w w' := by
  by_cases h0 : n < -2048
  · exact out6_0 n w  h0
  by_cases h1 : 2047 < n
  · exact out6_1 n w (by omega) h1
  by_cases hn : n < 0
  · exact law6_neg n w hp (by omega) (by omega) hn
  · exact law6_pos n w hp (by omega) (by omega) (by omega)

theorem out7_0 (n : Int) (w : World)  (_ : n < 0) : Calls Tryd.prog 7 #[.int .i64 n] w fun e w' => e = .returned (.bool true) ∧ Below w.heap.size w w' := by
  go_enter Tryd.func7, Tryd.ntmps7
  go_wp2
  go_ret
  exact ⟨rfl, Below.refl _ _⟩
theorem out7_1 (n : Int) (w : World) (_ : 0 ≤ n) (_ : 4294967295 < n) : Calls Tryd.prog 7 #[.int .i64 n] w fun e w' => e = .returned (.bool true) ∧ Below w.heap.size w w' := by
  go_enter Tryd.func7, Tryd.ntmps7
  go_wp2
  go_ret
  exact ⟨rfl, Below.refl _ _⟩
theorem walk7 (n : Int) (w : World) (hp : Pow w.heap.size w) : Calls Tryd.prog 7 #[.int .i64 n] w fun e w' => e = .returned (.bool true) ∧ Below w.heap.size w w' := by
  by_cases h0 : n < 0
  · exact out7_0 n w  h0
  by_cases h1 : 4294967295 < n
  · exact out7_1 n w (by omega) h1
  exact law7 n w hp (by omega) (by omega)

end Go.Proofs.YtjaobaeacjgbaaaDoor.Txt
