-- PRINTED BY print.sh 35421559b90ae4d0a3588c463048766b98c2df88dd9212a6774a882060cdf62d: not written by this session
import Derived.Test.YthcboddeannjcaaPFnBitCountx0
namespace Go.Proofs.Ythcboddeannjcaa.PFnBitCount
open Go.RowKit Go.Proofs.YthcboddeannjcaaW.PrintWords Go.Proofs.YthcboddeannjcaaW.PrintLast Go.Proofs.YthcboddeannjcaaW.PrintMore
attribute [local go_sem] max2_int min2_int max_two min_two max_three min_three max_four min_four   -- for this text's walks alone
set_option linter.unusedVariables false
set_option linter.unusedSimpArgs false

/-! ### arm64asm_bit_count: function 28 -/
def arm64asm_bit_count.l0 : Nat → Int → Int → Option (Int)
  | 0, _, _ => none
  | k + 1, x0, x3 => if x0 > 0 then (if (Go.bits .and .u32 x0 1) = 1 then (arm64asm_bit_count.l0 k (x0 / 2) ((x3 + 1) % 256)) else (arm64asm_bit_count.l0 k (x0 / 2) x3)) else (some x3)
def arm64asm_bit_count.f (k : Nat) (a0 : Int) : Option (Int) := arm64asm_bit_count.l0 k a0 0
theorem arm64asm_bit_count.mono_l : ∀ k, (∀ y0 y1, LeO (arm64asm_bit_count.l0 k y0 y1) (arm64asm_bit_count.l0 (k + 1) y0 y1))
  | 0 => fun _ _ r h => by simp [arm64asm_bit_count.l0] at h
  | k + 1 => by
    have ih0 := arm64asm_bit_count.mono_l k
    · intro y0 y1
      unfold arm64asm_bit_count.l0
      repeat' first
      | (with_reducible exact ih0 _ _)
      | (with_reducible exact LeO.refl _)
      | (with_reducible exact LeO.none _)
      | (with_reducible refine LeO.ite ?_ ?_)
      | (with_reducible refine LeO.bind ?_ (fun _ => ?_))
      | exact ih0 _ _
      | exact LeO.none _
      | refine LeO.ite ?_ ?_
      | refine LeO.bind ?_ (fun _ => ?_)
theorem arm64asm_bit_count.mono : ∀ a0 k, LeO (arm64asm_bit_count.f k a0) (arm64asm_bit_count.f (k + 1) a0) := by
  intro a0 k
  have ih0 := arm64asm_bit_count.mono_l k
  unfold arm64asm_bit_count.f
  repeat' first
      | (with_reducible exact ih0 _ _)
      | (with_reducible exact LeO.refl _)
      | (with_reducible exact LeO.none _)
      | (with_reducible refine LeO.ite ?_ ?_)
      | (with_reducible refine LeO.bind ?_ (fun _ => ?_))
      | exact ih0 _ _
      | exact LeO.none _
      | refine LeO.ite ?_ ?_
      | refine LeO.bind ?_ (fun _ => ?_)
set_option maxHeartbeats 8000000 in
set_option maxRecDepth 100000 in
theorem arm64asm_bit_count.calls (k : Nat) (a0 : Int) (r : Int) (w : World) (h : arm64asm_bit_count.f k a0 = some r) :
    Calls Try.prog 28 #[.int .u32 a0] w fun e w' => e = .returned (.int .u8 r) ∧ Drawn0 w w' := by
  have H : (arm64asm_bit_count.l0 k a0 0) = some r := h
  clear h
  have H' := Aside0.mk H
  clear H
  go_enter Try.func28, Try.ntmps28
  go_wp2
  go_loopg [0, 3] k (fun kq v0 v3 w' => ∃ (x0_1 : Int) (x3_1 : Int), v0 = .int .u32 x0_1 ∧ v3 = .int .u8 x3_1 ∧ Aside0 (arm64asm_bit_count.l0 kq x0_1 x3_1 = some r) ∧ Aside0 (kq ≤ k) ∧ Drawn0 w w')
  case atStart => exact ⟨(a0), (0), (by first | rfl | (simp; done) | (simp [*]; done)), (by first | rfl | (simp; done) | (simp [*]; done)), H', ⟨Nat.le_refl _⟩, by repeat (first | exact Drawn0.refl _ | apply Drawn0.step)⟩
  case round =>
    clear H'
    obtain ⟨x0_1, x3_1, rfl, rfl, HA, HK1, ⟨m1, rfl⟩⟩ := hrel
    cases gk with
    | zero => exact absurd HA.out (by simp [arm64asm_bit_count.l0])
    | succ k1 =>
      have H := HA.out
      clear HA
      simp only [arm64asm_bit_count.l0] at H
      by_cases c2 : x0_1 > 0
      · rw [if_pos c2] at H
        have c2b0 : decide (0 < x0_1) = true := decide_eq_true c2
        clear c2
        by_cases c3 : (Go.bits .and .u32 x0_1 1) = 1
        · rw [if_pos c3] at H
          have c3b0 : ((Go.bits .and .u32 x0_1 1) == 1) = true := beq_iff_eq.mpr c3
          have c3b1 : ((Go.bits .and .u32 x0_1 1) != 1) = false := bne_eq_false_iff_eq.mpr c3
          clear c3
          have H' := Aside0.mk H
          clear H
          go_wp2
          go_roundg k1
          case measure => have := HK1.out; omega
          case rel => exact ⟨(x0_1 / 2), ((x3_1 + 1) % 256), (by first | rfl | (simp; done) | (simp [*]; done)), (by first | rfl | (simp; done) | (simp [*]; done)), H', ⟨by have := HK1.out; omega⟩, by repeat (first | exact Drawn0.refl _ | apply Drawn0.step)⟩
        · rw [if_neg c3] at H
          have c3b0 : ((Go.bits .and .u32 x0_1 1) == 1) = false := beq_eq_false_iff_ne.mpr c3
          have c3b1 : ((Go.bits .and .u32 x0_1 1) != 1) = true := bne_iff_ne.mpr c3
          have H' := Aside0.mk H
          clear H
          go_wp2
          go_roundg k1
          case measure => have := HK1.out; omega
          case rel => exact ⟨(x0_1 / 2), (x3_1), (by first | rfl | (simp; done) | (simp [*]; done)), (by first | rfl | (simp; done) | (simp [*]; done)), H', ⟨by have := HK1.out; omega⟩, by repeat (first | exact Drawn0.refl _ | apply Drawn0.step)⟩
      · rw [if_neg c2] at H
        have c2b0 : decide (0 < x0_1) = false := decide_eq_false c2
        clear c2
        obtain rfl := Option.some.inj H
        go_wp2
        go_ret
        exact ⟨by first | rfl | (simp; done) | (simp [*]; done), by repeat (first | exact Drawn0.refl _ | apply Drawn0.step)⟩

/-! ### arm64asm_ZZBitCount: function 22 -/
def arm64asm_ZZBitCount.f (k : Nat) (a0 : Int) : Option (Int) := (arm64asm_bit_count.f k a0).bind fun t101 => (some t101)
theorem arm64asm_ZZBitCount.mono : ∀ a0 k, LeO (arm64asm_ZZBitCount.f k a0) (arm64asm_ZZBitCount.f (k + 1) a0) := by
  intro a0 k
  unfold arm64asm_ZZBitCount.f
  repeat' first
      | (with_reducible exact arm64asm_bit_count.mono _ _)
      | (with_reducible exact LeO.refl _)
      | (with_reducible exact LeO.none _)
      | (with_reducible refine LeO.ite ?_ ?_)
      | (with_reducible refine LeO.bind ?_ (fun _ => ?_))
      | exact arm64asm_bit_count.mono _ _
      | exact LeO.none _
      | refine LeO.ite ?_ ?_
      | refine LeO.bind ?_ (fun _ => ?_)
set_option maxHeartbeats 8000000 in
set_option maxRecDepth 100000 in
theorem arm64asm_ZZBitCount.calls (k : Nat) (a0 : Int) (r : Int) (w : World) (h : arm64asm_ZZBitCount.f k a0 = some r) :
    Calls Try.prog 22 #[.int .u32 a0] w fun e w' => e = .returned (.int .u8 r) ∧ Drawn0 w w' := by
  have H : ((arm64asm_bit_count.f k a0).bind fun t101 => (some t101)) = some r := h
  clear h
  replace H := Option.bind_eq_some_iff.mp H
  obtain ⟨t101, A20, H⟩ := H
  replace H : (some t101) = some r := H
  have A2 := Aside0.mk A20
  clear A20
  obtain rfl := Option.some.inj H
  go_enter Try.func22, Try.ntmps22
  go_wp2_with (first | ((with_reducible refine gate_callee (f := 28) rfl ?_); refine goesL_ (some 4) rfl rfl Try.func28 (by kernel_rfl) rfl #[.int .u32 a0] rfl (by (try simp only [List.map_toArray, List.map_cons, List.map_nil]); first | done | rfl | (simp only [List.length_drop, List.length_take]; rfl)) ?_; (with_reducible refine (arm64asm_bit_count.calls k a0 t101 _ A2.out).mono ?_); rintro e w' ⟨rfl, ⟨nd, rfl⟩⟩; refine ⟨_, rfl, ?_⟩))
  go_ret
  exact ⟨by first | rfl | (simp; done) | (simp [*]; done), by repeat (first | exact Drawn0.refl _ | apply Drawn0.step)⟩

/-! ### impl_BitCount: function 11 -/
def impl_BitCount.f (k : Nat) (a0 : Int) : Option (Int) := (arm64asm_ZZBitCount.f k a0).bind fun t102 => (some (wrap64 (t102)))
theorem impl_BitCount.mono : ∀ a0 k, LeO (impl_BitCount.f k a0) (impl_BitCount.f (k + 1) a0) := by
  intro a0 k
  unfold impl_BitCount.f
  repeat' first
      | (with_reducible exact arm64asm_ZZBitCount.mono _ _)
      | (with_reducible exact LeO.refl _)
      | (with_reducible exact LeO.none _)
      | (with_reducible refine LeO.ite ?_ ?_)
      | (with_reducible refine LeO.bind ?_ (fun _ => ?_))
      | exact arm64asm_ZZBitCount.mono _ _
      | exact LeO.none _
      | refine LeO.ite ?_ ?_
      | refine LeO.bind ?_ (fun _ => ?_)
set_option maxHeartbeats 8000000 in
set_option maxRecDepth 100000 in
theorem impl_BitCount.calls (k : Nat) (a0 : Int) (r : Int) (w : World) (h : impl_BitCount.f k a0 = some r) :
    Calls Try.prog 11 #[.int .u32 a0] w fun e w' => e = .returned (.int .i64 r) ∧ Drawn0 w w' := by
  have H : ((arm64asm_ZZBitCount.f k a0).bind fun t102 => (some (wrap64 (t102)))) = some r := h
  clear h
  replace H := Option.bind_eq_some_iff.mp H
  obtain ⟨t102, A20, H⟩ := H
  replace H : (some (wrap64 (t102))) = some r := H
  have A2 := Aside0.mk A20
  clear A20
  obtain rfl := Option.some.inj H
  go_enter Try.func11, Try.ntmps11
  go_wp2_with (first | ((with_reducible refine gate_callee (f := 22) rfl ?_); refine goesL_ (some 4) rfl rfl Try.func22 (by kernel_rfl) rfl #[.int .u32 a0] rfl (by (try simp only [List.map_toArray, List.map_cons, List.map_nil]); first | done | rfl | (simp only [List.length_drop, List.length_take]; rfl)) ?_; (with_reducible refine (arm64asm_ZZBitCount.calls k a0 t102 _ A2.out).mono ?_); rintro e w' ⟨rfl, ⟨nd, rfl⟩⟩; refine ⟨_, rfl, ?_⟩))
  go_ret
  exact ⟨by first | rfl | (simp; done) | (simp [*]; done), by repeat (first | exact Drawn0.refl _ | apply Drawn0.step)⟩

/-! ### spec_Ones: function 12 -/
def spec_Ones.l0 : Nat → Int → Int → Int → Option (Int)
  | 0, _, _, _ => none
  | k + 1, x0, x3, x4 => if x4 < 32 then (if 0 ≤ x4 then (spec_Ones.l0 k x0 (wrap64 (x3 + (Int.tmod (wrap64 (shr .u32 x0 x4)) 2))) (wrap64 (x4 + 1))) else (none)) else (some x3)
def spec_Ones.f (k : Nat) (a0 : Int) : Option (Int) := spec_Ones.l0 k a0 0 0
theorem spec_Ones.mono_l : ∀ k, (∀ y0 y1 y2, LeO (spec_Ones.l0 k y0 y1 y2) (spec_Ones.l0 (k + 1) y0 y1 y2))
  | 0 => fun _ _ _ r h => by simp [spec_Ones.l0] at h
  | k + 1 => by
    have ih0 := spec_Ones.mono_l k
    · intro y0 y1 y2
      unfold spec_Ones.l0
      repeat' first
      | (with_reducible exact ih0 _ _ _)
      | (with_reducible exact LeO.refl _)
      | (with_reducible exact LeO.none _)
      | (with_reducible refine LeO.ite ?_ ?_)
      | (with_reducible refine LeO.bind ?_ (fun _ => ?_))
      | exact ih0 _ _ _
      | exact LeO.none _
      | refine LeO.ite ?_ ?_
      | refine LeO.bind ?_ (fun _ => ?_)
theorem spec_Ones.mono : ∀ a0 k, LeO (spec_Ones.f k a0) (spec_Ones.f (k + 1) a0) := by
  intro a0 k
  have ih0 := spec_Ones.mono_l k
  unfold spec_Ones.f
  repeat' first
      | (with_reducible exact ih0 _ _ _)
      | (with_reducible exact LeO.refl _)
      | (with_reducible exact LeO.none _)
      | (with_reducible refine LeO.ite ?_ ?_)
      | (with_reducible refine LeO.bind ?_ (fun _ => ?_))
      | exact ih0 _ _ _
      | exact LeO.none _
      | refine LeO.ite ?_ ?_
      | refine LeO.bind ?_ (fun _ => ?_)
set_option maxHeartbeats 8000000 in
set_option maxRecDepth 100000 in
theorem spec_Ones.calls (k : Nat) (a0 : Int) (r : Int) (w : World) (h : spec_Ones.f k a0 = some r) :
    Calls Try.prog 12 #[.int .u32 a0] w fun e w' => e = .returned (.int .i64 r) ∧ Drawn0 w w' := by
  have H : (spec_Ones.l0 k a0 0 0) = some r := h
  clear h
  have H' := Aside0.mk H
  clear H
  go_enter Try.func12, Try.ntmps12
  go_wp2
  go_loopg [3, 4] k (fun kq v3 v4 w' => ∃ (x3_1 : Int) (x4_1 : Int), v3 = .int .i64 x3_1 ∧ v4 = .int .i64 x4_1 ∧ Aside0 (spec_Ones.l0 kq a0 x3_1 x4_1 = some r) ∧ Aside0 (kq ≤ k) ∧ Drawn0 w w')
  case atStart => exact ⟨(0), (0), (by first | rfl | (simp; done) | (simp [*]; done)), (by first | rfl | (simp; done) | (simp [*]; done)), H', ⟨Nat.le_refl _⟩, by repeat (first | exact Drawn0.refl _ | apply Drawn0.step)⟩
  case round =>
    clear H'
    try clear c1
    obtain ⟨x3_1, x4_1, rfl, rfl, HA, HK1, ⟨m1, rfl⟩⟩ := hrel
    cases gk with
    | zero => exact absurd HA.out (by simp [spec_Ones.l0])
    | succ k1 =>
      have H := HA.out
      clear HA
      simp only [spec_Ones.l0] at H
      by_cases c2 : x4_1 < 32
      · rw [if_pos c2] at H
        have c2b0 : decide (x4_1 < 32) = true := decide_eq_true c2
        clear c2
        by_cases c3 : 0 ≤ x4_1
        · rw [if_pos c3] at H
          have c3b0 := eq_true c3
          have c3b1 : decide (0 ≤ x4_1) = true := decide_eq_true c3
          clear c3
          obtain ⟨ji4, hji4⟩ : ∃ j_ : Int, (shr .u32 a0 x4_1) = j_ := ⟨_, rfl⟩
          replace H : (spec_Ones.l0 k1 a0 (wrap64 (x3_1 + (Int.tmod (wrap64 (ji4)) 2))) (wrap64 (x4_1 + 1))) = some r := by first | (rw [hji4] at H; exact H) | (simp only [hji4] at H ⊢; exact H)
          have hji4_ : (a0 / 2 ^ min x4_1.toNat 32) = ji4 := hji4
          have hji4z : x4_1 ≤ 32 → (a0 / 2 ^ x4_1.toNat) = ji4 := shr_small hji4
          have H' := Aside0.mk H
          clear H
          go_wp2
          go_roundg k1
          case measure => have := HK1.out; omega
          case rel => exact ⟨(wrap64 (x3_1 + (Int.tmod (wrap64 (ji4)) 2))), (wrap64 (x4_1 + 1)), (by first | rfl | (simp; done) | (simp only [← hji4] <;> (first | rfl | simp)) | (simp [*]; done)), (by first | rfl | (simp; done) | (simp [*]; done)), H', ⟨by have := HK1.out; omega⟩, by repeat (first | exact Drawn0.refl _ | apply Drawn0.step)⟩
        · rw [if_neg c3] at H
          exact absurd H (by simp)
      · rw [if_neg c2] at H
        have c2b0 : decide (x4_1 < 32) = false := decide_eq_false c2
        clear c2
        obtain rfl := Option.some.inj H
        go_wp2
        go_ret
        exact ⟨by first | rfl | (simp; done) | (simp [*]; done), by repeat (first | exact Drawn0.refl _ | apply Drawn0.step)⟩

/-! ### laws_FnBitCount: function 4 -/
def laws_FnBitCount.f (k : Nat) (a0 : Int) : Option (Bool) := (impl_BitCount.f k a0).bind fun t103 => ((spec_Ones.f k a0).bind fun t104 => (some (t103 == t104)))
theorem laws_FnBitCount.mono : ∀ a0 k, LeO (laws_FnBitCount.f k a0) (laws_FnBitCount.f (k + 1) a0) := by
  intro a0 k
  unfold laws_FnBitCount.f
  repeat' first
      | (with_reducible exact impl_BitCount.mono _ _)
      | (with_reducible exact spec_Ones.mono _ _)
      | (with_reducible exact LeO.refl _)
      | (with_reducible exact LeO.none _)
      | (with_reducible refine LeO.ite ?_ ?_)
      | (with_reducible refine LeO.bind ?_ (fun _ => ?_))
      | exact impl_BitCount.mono _ _
      | exact spec_Ones.mono _ _
      | exact LeO.none _
      | refine LeO.ite ?_ ?_
      | refine LeO.bind ?_ (fun _ => ?_)
set_option maxHeartbeats 8000000 in
set_option maxRecDepth 100000 in
theorem laws_FnBitCount.calls (k : Nat) (a0 : Int) (r : Bool) (w : World) (h : laws_FnBitCount.f k a0 = some r) :
    Calls Try.prog 4 #[.int .u32 a0] w fun e w' => e = .returned (.bool r) ∧ Drawn0 w w' := by
  have H : ((impl_BitCount.f k a0).bind fun t103 => ((spec_Ones.f k a0).bind fun t104 => (some (t103 == t104)))) = some r := h
  clear h
  replace H := Option.bind_eq_some_iff.mp H
  obtain ⟨t103, A20, H⟩ := H
  replace H : ((spec_Ones.f k a0).bind fun t104 => (some (t103 == t104))) = some r := H
  have A2 := Aside0.mk A20
  clear A20
  replace H := Option.bind_eq_some_iff.mp H
  obtain ⟨t104, A30, H⟩ := H
  replace H : (some (t103 == t104)) = some r := H
  have A3 := Aside0.mk A30
  clear A30
  obtain rfl := Option.some.inj H
  go_enter Try.func4, Try.ntmps4
  go_wp2_with (first | ((with_reducible refine gate_callee (f := 11) rfl ?_); refine goesL_ (some 4) rfl rfl Try.func11 (by kernel_rfl) rfl #[.int .u32 a0] rfl (by (try simp only [List.map_toArray, List.map_cons, List.map_nil]); first | done | rfl | (simp only [List.length_drop, List.length_take]; rfl)) ?_; (with_reducible refine (impl_BitCount.calls k a0 t103 _ A2.out).mono ?_); rintro e w' ⟨rfl, ⟨nd, rfl⟩⟩; refine ⟨_, rfl, ?_⟩) | ((with_reducible refine gate_callee (f := 12) rfl ?_); refine goesL_ (some 6) rfl rfl Try.func12 (by kernel_rfl) rfl #[.int .u32 a0] rfl (by (try simp only [List.map_toArray, List.map_cons, List.map_nil]); first | done | rfl | (simp only [List.length_drop, List.length_take]; rfl)) ?_; (with_reducible refine (spec_Ones.calls k a0 t104 _ A3.out).mono ?_); rintro e w' ⟨rfl, ⟨nd, rfl⟩⟩; refine ⟨_, rfl, ?_⟩))
  go_ret
  exact ⟨by first | rfl | (simp; done) | (simp [*]; done), by repeat (first | exact Drawn0.refl _ | apply Drawn0.step)⟩

/-- THE ONE PURE STATEMENT of laws_FnBitCount: yours. -/
def laws_FnBitCount.Pure : Prop := ∀ (a0 : Int), (Lit.int .u32 a0).wf = true → ∃ k, laws_FnBitCount.f k a0 = some true
theorem laws_FnBitCount.walk (P : laws_FnBitCount.Pure) (a0 : Int) (w : World) (w0 : (Lit.int .u32 a0).wf = true) :
    Calls Try.prog 4 #[.int .u32 a0] w fun e w' => e = .returned (.bool true) ∧ Below w.heap.size w w' := by
  obtain ⟨k, h⟩ := P a0 w0
  refine (laws_FnBitCount.calls k a0 true w h).mono ?_
  rintro e w' ⟨rfl, hd⟩
  exact ⟨rfl, hd.below⟩

end Go.Proofs.Ythcboddeannjcaa.PFnBitCount
