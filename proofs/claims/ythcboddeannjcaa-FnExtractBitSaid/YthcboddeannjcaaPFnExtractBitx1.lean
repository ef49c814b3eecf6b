-- PRINTED BY print.sh 35421559b90ae4d0a3588c463048766b98c2df88dd9212a6774a882060cdf62d: not written by this session
import Derived.Test.YthcboddeannjcaaPFnExtractBitx0
namespace Go.Proofs.Ythcboddeannjcaa.PFnExtractBit
open Go.RowKit Go.Proofs.YthcboddeannjcaaW.PrintWords Go.Proofs.YthcboddeannjcaaW.PrintLast Go.Proofs.YthcboddeannjcaaW.PrintMore
attribute [local go_sem] max2_int min2_int max_two min_two max_three min_three max_four min_four   -- for this text's walks alone
set_option linter.unusedVariables false
set_option linter.unusedSimpArgs false

/-! ### arm64asm_extract_bit: function 27 -/
def arm64asm_extract_bit.f (a0 : Int) (a1 : Int) : Option (Int) := if 0 ≤ a1 then (some (Go.bits .and .u32 (shr .u32 a0 a1) 1)) else (none)
set_option maxHeartbeats 8000000 in
set_option maxRecDepth 100000 in
theorem arm64asm_extract_bit.calls (a0 : Int) (a1 : Int) (r : Int) (w : World) (h : arm64asm_extract_bit.f a0 a1 = some r) :
    Calls Try.prog 27 #[.int .u32 a0, .int .u32 a1] w fun e w' => e = .returned (.int .u32 r) ∧ Drawn0 w w' := by
  have H : (if 0 ≤ a1 then (some (Go.bits .and .u32 (shr .u32 a0 a1) 1)) else (none)) = some r := h
  clear h
  by_cases c3 : 0 ≤ a1
  · rw [if_pos c3] at H
    have c3b0 := eq_true c3
    have c3b1 : decide (0 ≤ a1) = true := decide_eq_true c3
    clear c3
    obtain ⟨ji4, hji4⟩ : ∃ j_ : Int, (shr .u32 a0 a1) = j_ := ⟨_, rfl⟩
    replace H : (some (Go.bits .and .u32 (ji4) 1)) = some r := by first | (rw [hji4] at H; exact H) | (simp only [hji4] at H ⊢; exact H)
    have hji4_ : (a0 / 2 ^ min a1.toNat 32) = ji4 := hji4
    have hji4z : a1 ≤ 32 → (a0 / 2 ^ a1.toNat) = ji4 := shr_small hji4
    obtain rfl := Option.some.inj H
    go_enter Try.func27, Try.ntmps27
    go_wp2
    go_ret
    exact ⟨by first | rfl | (simp; done) | (simp only [← hji4] <;> (first | rfl | simp)) | (simp [*]; done), by repeat (first | exact Drawn0.refl _ | apply Drawn0.step)⟩
  · rw [if_neg c3] at H
    exact absurd H (by simp)

/-! ### arm64asm_ZZExtractBit: function 21 -/
def arm64asm_ZZExtractBit.f (a0 : Int) (a1 : Int) : Option (Int) := (arm64asm_extract_bit.f a0 a1).bind fun t101 => (some t101)
set_option maxHeartbeats 8000000 in
set_option maxRecDepth 100000 in
theorem arm64asm_ZZExtractBit.calls (a0 : Int) (a1 : Int) (r : Int) (w : World) (h : arm64asm_ZZExtractBit.f a0 a1 = some r) :
    Calls Try.prog 21 #[.int .u32 a0, .int .u32 a1] w fun e w' => e = .returned (.int .u32 r) ∧ Drawn0 w w' := by
  have H : ((arm64asm_extract_bit.f a0 a1).bind fun t101 => (some t101)) = some r := h
  clear h
  replace H := Option.bind_eq_some_iff.mp H
  obtain ⟨t101, A30, H⟩ := H
  replace H : (some t101) = some r := H
  have A3 := Aside0.mk A30
  clear A30
  obtain rfl := Option.some.inj H
  go_enter Try.func21, Try.ntmps21
  go_wp2_with (first | ((with_reducible refine gate_callee (f := 27) rfl ?_); refine goesL_ (some 7) rfl rfl Try.func27 (by kernel_rfl) rfl #[.int .u32 a0, .int .u32 a1] rfl (by (try simp only [List.map_toArray, List.map_cons, List.map_nil]); first | done | rfl | (simp only [List.length_drop, List.length_take]; rfl)) ?_; (with_reducible refine (arm64asm_extract_bit.calls a0 a1 t101 _ A3.out).mono ?_); rintro e w' ⟨rfl, ⟨nd, rfl⟩⟩; refine ⟨_, rfl, ?_⟩))
  go_ret
  exact ⟨by first | rfl | (simp; done) | (simp [*]; done), by repeat (first | exact Drawn0.refl _ | apply Drawn0.step)⟩

/-! ### impl_ExtractBit: function 10 -/
def impl_ExtractBit.f (a0 : Int) (a1 : Int) : Option (Int) := (arm64asm_ZZExtractBit.f a0 a1).bind fun t102 => (some t102)
set_option maxHeartbeats 8000000 in
set_option maxRecDepth 100000 in
theorem impl_ExtractBit.calls (a0 : Int) (a1 : Int) (r : Int) (w : World) (h : impl_ExtractBit.f a0 a1 = some r) :
    Calls Try.prog 10 #[.int .u32 a0, .int .u32 a1] w fun e w' => e = .returned (.int .u32 r) ∧ Drawn0 w w' := by
  have H : ((arm64asm_ZZExtractBit.f a0 a1).bind fun t102 => (some t102)) = some r := h
  clear h
  replace H := Option.bind_eq_some_iff.mp H
  obtain ⟨t102, A30, H⟩ := H
  replace H : (some t102) = some r := H
  have A3 := Aside0.mk A30
  clear A30
  obtain rfl := Option.some.inj H
  go_enter Try.func10, Try.ntmps10
  go_wp2_with (first | ((with_reducible refine gate_callee (f := 21) rfl ?_); refine goesL_ (some 7) rfl rfl Try.func21 (by kernel_rfl) rfl #[.int .u32 a0, .int .u32 a1] rfl (by (try simp only [List.map_toArray, List.map_cons, List.map_nil]); first | done | rfl | (simp only [List.length_drop, List.length_take]; rfl)) ?_; (with_reducible refine (arm64asm_ZZExtractBit.calls a0 a1 t102 _ A3.out).mono ?_); rintro e w' ⟨rfl, ⟨nd, rfl⟩⟩; refine ⟨_, rfl, ?_⟩))
  go_ret
  exact ⟨by first | rfl | (simp; done) | (simp [*]; done), by repeat (first | exact Drawn0.refl _ | apply Drawn0.step)⟩

/-! ### laws_FnExtractBit: function 3 -/
def laws_FnExtractBit.f (a0 : Int) (a1 : Int) : Option (Bool) := if a1 > 31 then (some true) else ((impl_ExtractBit.f a0 a1).bind fun t103 => (if 0 ≤ a1 then (some (t103 == (Int.tmod (shr .u32 a0 a1) 2))) else (none)))
set_option maxHeartbeats 8000000 in
set_option maxRecDepth 100000 in
theorem laws_FnExtractBit.calls (a0 : Int) (a1 : Int) (r : Bool) (w : World) (h : laws_FnExtractBit.f a0 a1 = some r) :
    Calls Try.prog 3 #[.int .u32 a0, .int .u32 a1] w fun e w' => e = .returned (.bool r) ∧ Drawn0 w w' := by
  have H : (if a1 > 31 then (some true) else ((impl_ExtractBit.f a0 a1).bind fun t103 => (if 0 ≤ a1 then (some (t103 == (Int.tmod (shr .u32 a0 a1) 2))) else (none)))) = some r := h
  clear h
  by_cases c3 : a1 > 31
  · rw [if_pos c3] at H
    have c3b0 : decide (31 < a1) = true := decide_eq_true c3
    clear c3
    obtain rfl := Option.some.inj H
    go_enter Try.func3, Try.ntmps3
    go_wp2
    go_ret
    exact ⟨by first | rfl | (simp; done) | (simp [*]; done), by repeat (first | exact Drawn0.refl _ | apply Drawn0.step)⟩
  · rw [if_neg c3] at H
    have c3b0 : decide (31 < a1) = false := decide_eq_false c3
    clear c3
    replace H := Option.bind_eq_some_iff.mp H
    obtain ⟨t103, A40, H⟩ := H
    replace H : (if 0 ≤ a1 then (some (t103 == (Int.tmod (shr .u32 a0 a1) 2))) else (none)) = some r := H
    have A4 := Aside0.mk A40
    clear A40
    by_cases c5 : 0 ≤ a1
    · rw [if_pos c5] at H
      have c5b0 := eq_true c5
      have c5b1 : decide (0 ≤ a1) = true := decide_eq_true c5
      clear c5
      obtain ⟨ji6, hji6⟩ : ∃ j_ : Int, (shr .u32 a0 a1) = j_ := ⟨_, rfl⟩
      replace H : (some (t103 == (Int.tmod (ji6) 2))) = some r := by first | (rw [hji6] at H; exact H) | (simp only [hji6] at H ⊢; exact H)
      (try rw [hji6] at A4)
      have hji6_ : (a0 / 2 ^ min a1.toNat 32) = ji6 := hji6
      have hji6z : a1 ≤ 32 → (a0 / 2 ^ a1.toNat) = ji6 := shr_small hji6
      obtain rfl := Option.some.inj H
      go_enter Try.func3, Try.ntmps3
      go_wp2_with (first | (go_at_call 10; (with_reducible refine (impl_ExtractBit.calls a0 a1 t103 _ A4.out).mono ?_); rintro e w' ⟨rfl, ⟨nd, rfl⟩⟩))
      go_ret
      exact ⟨by first | rfl | (simp; done) | (simp only [← hji6] <;> (first | rfl | simp)) | (simp [*]; done), by repeat (first | exact Drawn0.refl _ | apply Drawn0.step)⟩
    · rw [if_neg c5] at H
      exact absurd H (by simp)

/-- THE ONE PURE STATEMENT of laws_FnExtractBit: yours. -/
def laws_FnExtractBit.Pure : Prop := ∀ (a0 : Int) (a1 : Int), (Lit.int .u32 a0).wf = true → (Lit.int .u32 a1).wf = true → laws_FnExtractBit.f a0 a1 = some true
theorem laws_FnExtractBit.walk (P : laws_FnExtractBit.Pure) (a0 : Int) (a1 : Int) (w : World) (w0 : (Lit.int .u32 a0).wf = true) (w1 : (Lit.int .u32 a1).wf = true) :
    Calls Try.prog 3 #[.int .u32 a0, .int .u32 a1] w fun e w' => e = .returned (.bool true) ∧ Below w.heap.size w w' := by
  have h := P a0 a1 w0 w1
  refine (laws_FnExtractBit.calls a0 a1 true w h).mono ?_
  rintro e w' ⟨rfl, hd⟩
  exact ⟨rfl, hd.below⟩

end Go.Proofs.Ythcboddeannjcaa.PFnExtractBit
