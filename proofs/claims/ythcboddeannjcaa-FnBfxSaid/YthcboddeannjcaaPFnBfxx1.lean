-- PRINTED BY print.sh 35421559b90ae4d0a3588c463048766b98c2df88dd9212a6774a882060cdf62d: not written by this session
import Derived.Test.YthcboddeannjcaaPFnBfxx0
namespace Go.Proofs.Ythcboddeannjcaa.PFnBfx
open Go.RowKit Go.Proofs.YthcboddeannjcaaW.PrintWords Go.Proofs.YthcboddeannjcaaW.PrintLast Go.Proofs.YthcboddeannjcaaW.PrintMore
attribute [local go_sem] max2_int min2_int max_two min_two max_three min_three max_four min_four   -- for this text's walks alone
set_option linter.unusedVariables false
set_option linter.unusedSimpArgs false

/-! ### arm64asm_bfxpreferred_4: function 29 -/
mutual
def arm64asm_bfxpreferred_4.j0 : Nat → Int → Int → Int → Int → Bool → Option (Bool)
  | 0, _, _, _, _, _ => none
  | k + 1, x0, x1, x2, x3, x20 => if x20 = true then (some false) else (if x3 = 0 then (if x0 = 0 then (if x2 = 7 then (arm64asm_bfxpreferred_4.j1 k x0 x1 x2 true) else (arm64asm_bfxpreferred_4.j1 k x0 x1 x2 (x2 == 15))) else (arm64asm_bfxpreferred_4.j1 k x0 x1 x2 false)) else (some true))
def arm64asm_bfxpreferred_4.j1 : Nat → Int → Int → Int → Bool → Option (Bool)
  | 0, _, _, _, _ => none
  | k + 1, x0, x1, x2, x32 => if x32 = true then (some false) else (if x0 = 1 then (if x1 = 0 then (if x2 = 7 then (some false) else (if x2 = 15 then (some false) else (if x2 = 31 then (some false) else (some true)))) else (some true)) else (some true))
end
def arm64asm_bfxpreferred_4.f (k : Nat) (a0 : Int) (a1 : Int) (a2 : Int) (a3 : Int) : Option (Bool) := if a2 < a3 then (some false) else (if (a2 / 32) = a0 then (arm64asm_bfxpreferred_4.j0 k a0 a1 a2 a3 ((Go.bits .and .u32 a2 31) == 31)) else (arm64asm_bfxpreferred_4.j0 k a0 a1 a2 a3 false))
theorem arm64asm_bfxpreferred_4.mono_l : ∀ k, (∀ y0 y1 y2 y3 y4, LeO (arm64asm_bfxpreferred_4.j0 k y0 y1 y2 y3 y4) (arm64asm_bfxpreferred_4.j0 (k + 1) y0 y1 y2 y3 y4)) ∧ (∀ y0 y1 y2 y3, LeO (arm64asm_bfxpreferred_4.j1 k y0 y1 y2 y3) (arm64asm_bfxpreferred_4.j1 (k + 1) y0 y1 y2 y3))
  | 0 => ⟨fun _ _ _ _ _ r h => by simp [arm64asm_bfxpreferred_4.j0] at h, fun _ _ _ _ r h => by simp [arm64asm_bfxpreferred_4.j1] at h⟩
  | k + 1 => by
    obtain ⟨ih0, ih1⟩ := arm64asm_bfxpreferred_4.mono_l k
    refine ⟨?_, ?_⟩
    · intro y0 y1 y2 y3 y4
      unfold arm64asm_bfxpreferred_4.j0
      repeat' first
      | (with_reducible exact ih0 _ _ _ _ _)
      | (with_reducible exact ih1 _ _ _ _)
      | (with_reducible exact LeO.refl _)
      | (with_reducible exact LeO.none _)
      | (with_reducible refine LeO.ite ?_ ?_)
      | (with_reducible refine LeO.bind ?_ (fun _ => ?_))
      | exact ih0 _ _ _ _ _
      | exact ih1 _ _ _ _
      | exact LeO.none _
      | refine LeO.ite ?_ ?_
      | refine LeO.bind ?_ (fun _ => ?_)
    · intro y0 y1 y2 y3
      unfold arm64asm_bfxpreferred_4.j1
      repeat' first
      | (with_reducible exact ih0 _ _ _ _ _)
      | (with_reducible exact ih1 _ _ _ _)
      | (with_reducible exact LeO.refl _)
      | (with_reducible exact LeO.none _)
      | (with_reducible refine LeO.ite ?_ ?_)
      | (with_reducible refine LeO.bind ?_ (fun _ => ?_))
      | exact ih0 _ _ _ _ _
      | exact ih1 _ _ _ _
      | exact LeO.none _
      | refine LeO.ite ?_ ?_
      | refine LeO.bind ?_ (fun _ => ?_)
theorem arm64asm_bfxpreferred_4.mono : ∀ a0 a1 a2 a3 k, LeO (arm64asm_bfxpreferred_4.f k a0 a1 a2 a3) (arm64asm_bfxpreferred_4.f (k + 1) a0 a1 a2 a3) := by
  intro a0 a1 a2 a3 k
  obtain ⟨ih0, ih1⟩ := arm64asm_bfxpreferred_4.mono_l k
  unfold arm64asm_bfxpreferred_4.f
  repeat' first
      | (with_reducible exact ih0 _ _ _ _ _)
      | (with_reducible exact ih1 _ _ _ _)
      | (with_reducible exact LeO.refl _)
      | (with_reducible exact LeO.none _)
      | (with_reducible refine LeO.ite ?_ ?_)
      | (with_reducible refine LeO.bind ?_ (fun _ => ?_))
      | exact ih0 _ _ _ _ _
      | exact ih1 _ _ _ _
      | exact LeO.none _
      | refine LeO.ite ?_ ?_
      | refine LeO.bind ?_ (fun _ => ?_)
set_option maxHeartbeats 8000000 in
set_option maxRecDepth 100000 in
theorem arm64asm_bfxpreferred_4.calls (k : Nat) (a0 : Int) (a1 : Int) (a2 : Int) (a3 : Int) (r : Bool) (w : World) (h : arm64asm_bfxpreferred_4.f k a0 a1 a2 a3 = some r) :
    Calls Try.prog 29 #[.int .u32 a0, .int .u32 a1, .int .u32 a2, .int .u32 a3] w fun e w' => e = .returned (.bool r) ∧ Drawn0 w w' := by
  have H : (if a2 < a3 then (some false) else (if (a2 / 32) = a0 then (arm64asm_bfxpreferred_4.j0 k a0 a1 a2 a3 ((Go.bits .and .u32 a2 31) == 31)) else (arm64asm_bfxpreferred_4.j0 k a0 a1 a2 a3 false))) = some r := h
  clear h
  by_cases c5 : a2 < a3
  · rw [if_pos c5] at H
    have c5b0 : decide (a2 < a3) = true := decide_eq_true c5
    clear c5
    obtain rfl := Option.some.inj H
    go_enter Try.func29, Try.ntmps29
    go_wp2
    go_ret
    exact ⟨by first | rfl | (simp; done) | (simp [*]; done), by repeat (first | exact Drawn0.refl _ | apply Drawn0.step)⟩
  · rw [if_neg c5] at H
    have c5b0 : decide (a2 < a3) = false := decide_eq_false c5
    clear c5
    have HC6 := Aside0.mk H
    clear H
    go_enter Try.func29, Try.ntmps29
    go_upto_region 3 with (fail)
    go_cut [20] (fun v20 wc => ∃ (kq : Nat) (x20_5 : Bool), v20 = .bool x20_5 ∧ Aside0 (arm64asm_bfxpreferred_4.j0 kq a0 a1 a2 a3 x20_5 = some r) ∧ Aside0 (kq ≤ k) ∧ Drawn0 w wc)
    case first =>
      have H := HC6.out
      clear HC6
      by_cases c7 : (a2 / 32) = a0
      · rw [if_pos c7] at H
        have c7b0 : ((a2 / 32) == a0) = true := beq_iff_eq.mpr c7
        have c7b1 : ((a2 / 32) != a0) = false := bne_eq_false_iff_eq.mpr c7
        clear c7
        (first | rw [c7b0] | (simp only [i64_w, i32_w]; rw [c7b0]) | skip)
        have H' := Aside0.mk H
        clear H
        go_wp2
        go_meet
        case rel => exact ⟨_, (((Go.bits .and .u32 a2 31) == 31)), (by first | rfl | (simp; done) | (simp [*]; done)), H', ⟨by first | omega | exact Nat.le_refl _⟩, by repeat (first | exact Drawn0.refl _ | apply Drawn0.step)⟩
      · rw [if_neg c7] at H
        have c7b0 : ((a2 / 32) == a0) = false := beq_eq_false_iff_ne.mpr c7
        have c7b1 : ((a2 / 32) != a0) = true := bne_iff_ne.mpr c7
        (first | rw [c7b0] | (simp only [i64_w, i32_w]; rw [c7b0]) | skip)
        have H' := Aside0.mk H
        clear H
        go_wp2
        go_meet
        case rel => exact ⟨_, (false), (by first | rfl | (simp; done) | (simp [*]; done)), H', ⟨by first | omega | exact Nat.le_refl _⟩, by repeat (first | exact Drawn0.refl _ | apply Drawn0.step)⟩
    case rest =>
      clear HC6
      try clear c2
      try clear p2
      try clear c5
      try clear c5b0
      try clear c7
      try clear c7b0
      try clear c7b1
      obtain ⟨kq, x20_5, rfl, HA, HJ5, ⟨mc5, rfl⟩⟩ := hcut
      cases kq with
      | zero => exact absurd HA.out (by simp [arm64asm_bfxpreferred_4.j0])
      | succ kj5 =>
        have H := HA.out
        clear HA
        simp only [arm64asm_bfxpreferred_4.j0] at H
        by_cases c8 : x20_5 = true
        · subst c8
          have H1 : (some false) = some r := by rw [if_pos rfl] at H; exact H
          clear H
          have H := H1
          clear H1
          obtain rfl := Option.some.inj H
          go_wp2
          go_ret
          exact ⟨by first | rfl | (simp; done) | (simp [*]; done), by repeat (first | exact Drawn0.refl _ | apply Drawn0.step)⟩
        · replace c8 := Bool.eq_false_iff.mpr c8
          subst c8
          have H1 : (if a3 = 0 then (if a0 = 0 then (if a2 = 7 then (arm64asm_bfxpreferred_4.j1 kj5 a0 a1 a2 true) else (arm64asm_bfxpreferred_4.j1 kj5 a0 a1 a2 (a2 == 15))) else (arm64asm_bfxpreferred_4.j1 kj5 a0 a1 a2 false)) else (some true)) = some r := by rw [if_neg (show ¬ (false = true) by decide)] at H; exact H
          clear H
          have H := H1
          clear H1
          by_cases c9 : a3 = 0
          · rw [if_pos c9] at H
            have c9b0 : (a3 == 0) = true := beq_iff_eq.mpr c9
            have c9b1 : (a3 != 0) = false := bne_eq_false_iff_eq.mpr c9
            clear c9
            have HC10 := Aside0.mk H
            clear H
            go_upto_region 6 with (fail)
            go_cut [32] (fun v32 wc => ∃ (kq : Nat) (x32_9 : Bool), v32 = .bool x32_9 ∧ Aside0 (arm64asm_bfxpreferred_4.j1 kq a0 a1 a2 x32_9 = some r) ∧ Aside0 (kq ≤ kj5) ∧ Drawn0 w wc)
            case first =>
              have H := HC10.out
              clear HC10
              by_cases c11 : a0 = 0
              · rw [if_pos c11] at H
                have c11b0 : (a0 == 0) = true := beq_iff_eq.mpr c11
                have c11b1 : (a0 != 0) = false := bne_eq_false_iff_eq.mpr c11
                clear c11
                (first | rw [c11b0] | (simp only [i64_w, i32_w]; rw [c11b0]) | skip)
                by_cases c12 : a2 = 7
                · rw [if_pos c12] at H
                  have c12b0 : (a2 == 7) = true := beq_iff_eq.mpr c12
                  have c12b1 : (a2 != 7) = false := bne_eq_false_iff_eq.mpr c12
                  clear c12
                  have H' := Aside0.mk H
                  clear H
                  go_wp2
                  go_meet
                  case rel => exact ⟨_, (true), (by first | rfl | (simp; done) | (simp [*]; done)), H', ⟨by have := HJ5.out; first | omega | exact Nat.le_refl _⟩, by repeat (first | exact Drawn0.refl _ | apply Drawn0.step)⟩
                · rw [if_neg c12] at H
                  have c12b0 : (a2 == 7) = false := beq_eq_false_iff_ne.mpr c12
                  have c12b1 : (a2 != 7) = true := bne_iff_ne.mpr c12
                  have H' := Aside0.mk H
                  clear H
                  go_wp2
                  go_meet
                  case rel => exact ⟨_, ((a2 == 15)), (by first | rfl | (simp; done) | (simp [*]; done)), H', ⟨by have := HJ5.out; first | omega | exact Nat.le_refl _⟩, by repeat (first | exact Drawn0.refl _ | apply Drawn0.step)⟩
              · rw [if_neg c11] at H
                have c11b0 : (a0 == 0) = false := beq_eq_false_iff_ne.mpr c11
                have c11b1 : (a0 != 0) = true := bne_iff_ne.mpr c11
                (first | rw [c11b0] | (simp only [i64_w, i32_w]; rw [c11b0]) | skip)
                have H' := Aside0.mk H
                clear H
                go_wp2
                go_meet
                case rel => exact ⟨_, (false), (by first | rfl | (simp; done) | (simp [*]; done)), H', ⟨by have := HJ5.out; first | omega | exact Nat.le_refl _⟩, by repeat (first | exact Drawn0.refl _ | apply Drawn0.step)⟩
            case rest =>
              clear HC10
              try clear c1
              try clear c2
              try clear p2
              try clear c5
              try clear c5b0
              try clear c7
              try clear c7b0
              try clear c7b1
              try clear c8
              try clear c9
              try clear c9b0
              try clear c9b1
              try clear c11
              try clear c11b0
              try clear c11b1
              try clear c12
              try clear c12b0
              try clear c12b1
              try clear p2
              obtain ⟨kq, x32_9, rfl, HA, HJ9, ⟨mc9, rfl⟩⟩ := hcut
              cases kq with
              | zero => exact absurd HA.out (by simp [arm64asm_bfxpreferred_4.j1])
              | succ kj9 =>
                have H := HA.out
                clear HA
                simp only [arm64asm_bfxpreferred_4.j1] at H
                by_cases c13 : x32_9 = true
                · subst c13
                  have H1 : (some false) = some r := by rw [if_pos rfl] at H; exact H
                  clear H
                  have H := H1
                  clear H1
                  obtain rfl := Option.some.inj H
                  go_wp2
                  go_ret
                  exact ⟨by first | rfl | (simp; done) | (simp [*]; done), by repeat (first | exact Drawn0.refl _ | apply Drawn0.step)⟩
                · replace c13 := Bool.eq_false_iff.mpr c13
                  subst c13
                  have H1 : (if a0 = 1 then (if a1 = 0 then (if a2 = 7 then (some false) else (if a2 = 15 then (some false) else (if a2 = 31 then (some false) else (some true)))) else (some true)) else (some true)) = some r := by rw [if_neg (show ¬ (false = true) by decide)] at H; exact H
                  clear H
                  have H := H1
                  clear H1
                  by_cases c14 : a0 = 1
                  · rw [if_pos c14] at H
                    have c14b0 : (a0 == 1) = true := beq_iff_eq.mpr c14
                    have c14b1 : (a0 != 1) = false := bne_eq_false_iff_eq.mpr c14
                    clear c14
                    by_cases c15 : a1 = 0
                    · rw [if_pos c15] at H
                      have c15b0 : (a1 == 0) = true := beq_iff_eq.mpr c15
                      have c15b1 : (a1 != 0) = false := bne_eq_false_iff_eq.mpr c15
                      clear c15
                      by_cases c16 : a2 = 7
                      · rw [if_pos c16] at H
                        have c16b0 : (a2 == 7) = true := beq_iff_eq.mpr c16
                        have c16b1 : (a2 != 7) = false := bne_eq_false_iff_eq.mpr c16
                        clear c16
                        obtain rfl := Option.some.inj H
                        go_wp2
                        go_ret
                        exact ⟨by first | rfl | (simp; done) | (simp [*]; done), by repeat (first | exact Drawn0.refl _ | apply Drawn0.step)⟩
                      · rw [if_neg c16] at H
                        have c16b0 : (a2 == 7) = false := beq_eq_false_iff_ne.mpr c16
                        have c16b1 : (a2 != 7) = true := bne_iff_ne.mpr c16
                        by_cases c17 : a2 = 15
                        · rw [if_pos c17] at H
                          have c17b0 : (a2 == 15) = true := beq_iff_eq.mpr c17
                          have c17b1 : (a2 != 15) = false := bne_eq_false_iff_eq.mpr c17
                          clear c17
                          obtain rfl := Option.some.inj H
                          go_wp2
                          go_ret
                          exact ⟨by first | rfl | (simp; done) | (simp [*]; done), by repeat (first | exact Drawn0.refl _ | apply Drawn0.step)⟩
                        · rw [if_neg c17] at H
                          have c17b0 : (a2 == 15) = false := beq_eq_false_iff_ne.mpr c17
                          have c17b1 : (a2 != 15) = true := bne_iff_ne.mpr c17
                          by_cases c18 : a2 = 31
                          · rw [if_pos c18] at H
                            have c18b0 : (a2 == 31) = true := beq_iff_eq.mpr c18
                            have c18b1 : (a2 != 31) = false := bne_eq_false_iff_eq.mpr c18
                            clear c18
                            obtain rfl := Option.some.inj H
                            go_wp2
                            go_ret
                            exact ⟨by first | rfl | (simp; done) | (simp [*]; done), by repeat (first | exact Drawn0.refl _ | apply Drawn0.step)⟩
                          · rw [if_neg c18] at H
                            have c18b0 : (a2 == 31) = false := beq_eq_false_iff_ne.mpr c18
                            have c18b1 : (a2 != 31) = true := bne_iff_ne.mpr c18
                            obtain rfl := Option.some.inj H
                            go_wp2
                            go_ret
                            exact ⟨by first | rfl | (simp; done) | (simp [*]; done), by repeat (first | exact Drawn0.refl _ | apply Drawn0.step)⟩
                    · rw [if_neg c15] at H
                      have c15b0 : (a1 == 0) = false := beq_eq_false_iff_ne.mpr c15
                      have c15b1 : (a1 != 0) = true := bne_iff_ne.mpr c15
                      obtain rfl := Option.some.inj H
                      go_wp2
                      go_ret
                      exact ⟨by first | rfl | (simp; done) | (simp [*]; done), by repeat (first | exact Drawn0.refl _ | apply Drawn0.step)⟩
                  · rw [if_neg c14] at H
                    have c14b0 : (a0 == 1) = false := beq_eq_false_iff_ne.mpr c14
                    have c14b1 : (a0 != 1) = true := bne_iff_ne.mpr c14
                    obtain rfl := Option.some.inj H
                    go_wp2
                    go_ret
                    exact ⟨by first | rfl | (simp; done) | (simp [*]; done), by repeat (first | exact Drawn0.refl _ | apply Drawn0.step)⟩
          · rw [if_neg c9] at H
            have c9b0 : (a3 == 0) = false := beq_eq_false_iff_ne.mpr c9
            have c9b1 : (a3 != 0) = true := bne_iff_ne.mpr c9
            obtain rfl := Option.some.inj H
            go_wp2
            go_ret
            exact ⟨by first | rfl | (simp; done) | (simp [*]; done), by repeat (first | exact Drawn0.refl _ | apply Drawn0.step)⟩

/-! ### arm64asm_ZZBfxPreferred: function 23 -/
def arm64asm_ZZBfxPreferred.f (k : Nat) (a0 : Int) (a1 : Int) (a2 : Int) (a3 : Int) : Option (Bool) := (arm64asm_bfxpreferred_4.f k a0 a1 a2 a3).bind fun t101 => (some t101)
theorem arm64asm_ZZBfxPreferred.mono : ∀ a0 a1 a2 a3 k, LeO (arm64asm_ZZBfxPreferred.f k a0 a1 a2 a3) (arm64asm_ZZBfxPreferred.f (k + 1) a0 a1 a2 a3) := by
  intro a0 a1 a2 a3 k
  unfold arm64asm_ZZBfxPreferred.f
  repeat' first
      | (with_reducible exact arm64asm_bfxpreferred_4.mono _ _ _ _ _)
      | (with_reducible exact LeO.refl _)
      | (with_reducible exact LeO.none _)
      | (with_reducible refine LeO.ite ?_ ?_)
      | (with_reducible refine LeO.bind ?_ (fun _ => ?_))
      | exact arm64asm_bfxpreferred_4.mono _ _ _ _ _
      | exact LeO.none _
      | refine LeO.ite ?_ ?_
      | refine LeO.bind ?_ (fun _ => ?_)
set_option maxHeartbeats 8000000 in
set_option maxRecDepth 100000 in
theorem arm64asm_ZZBfxPreferred.calls (k : Nat) (a0 : Int) (a1 : Int) (a2 : Int) (a3 : Int) (r : Bool) (w : World) (h : arm64asm_ZZBfxPreferred.f k a0 a1 a2 a3 = some r) :
    Calls Try.prog 23 #[.int .u32 a0, .int .u32 a1, .int .u32 a2, .int .u32 a3] w fun e w' => e = .returned (.bool r) ∧ Drawn0 w w' := by
  have H : ((arm64asm_bfxpreferred_4.f k a0 a1 a2 a3).bind fun t101 => (some t101)) = some r := h
  clear h
  replace H := Option.bind_eq_some_iff.mp H
  obtain ⟨t101, A50, H⟩ := H
  replace H : (some t101) = some r := H
  have A5 := Aside0.mk A50
  clear A50
  obtain rfl := Option.some.inj H
  go_enter Try.func23, Try.ntmps23
  go_wp2_with (first | ((with_reducible refine gate_callee (f := 29) rfl ?_); refine goesL_ (some 13) rfl rfl Try.func29 (by kernel_rfl) rfl #[.int .u32 a0, .int .u32 a1, .int .u32 a2, .int .u32 a3] rfl (by (try simp only [List.map_toArray, List.map_cons, List.map_nil]); first | done | rfl | (simp only [List.length_drop, List.length_take]; rfl)) ?_; (with_reducible refine (arm64asm_bfxpreferred_4.calls k a0 a1 a2 a3 t101 _ A5.out).mono ?_); rintro e w' ⟨rfl, ⟨nd, rfl⟩⟩; refine ⟨_, rfl, ?_⟩))
  go_ret
  exact ⟨by first | rfl | (simp; done) | (simp [*]; done), by repeat (first | exact Drawn0.refl _ | apply Drawn0.step)⟩

/-! ### impl_Bfx: function 13 -/
def impl_Bfx.f (k : Nat) (a0 : Int) (a1 : Int) (a2 : Int) (a3 : Int) : Option (Bool) := (arm64asm_ZZBfxPreferred.f k a0 a1 a2 a3).bind fun t102 => (some t102)
theorem impl_Bfx.mono : ∀ a0 a1 a2 a3 k, LeO (impl_Bfx.f k a0 a1 a2 a3) (impl_Bfx.f (k + 1) a0 a1 a2 a3) := by
  intro a0 a1 a2 a3 k
  unfold impl_Bfx.f
  repeat' first
      | (with_reducible exact arm64asm_ZZBfxPreferred.mono _ _ _ _ _)
      | (with_reducible exact LeO.refl _)
      | (with_reducible exact LeO.none _)
      | (with_reducible refine LeO.ite ?_ ?_)
      | (with_reducible refine LeO.bind ?_ (fun _ => ?_))
      | exact arm64asm_ZZBfxPreferred.mono _ _ _ _ _
      | exact LeO.none _
      | refine LeO.ite ?_ ?_
      | refine LeO.bind ?_ (fun _ => ?_)
set_option maxHeartbeats 8000000 in
set_option maxRecDepth 100000 in
theorem impl_Bfx.calls (k : Nat) (a0 : Int) (a1 : Int) (a2 : Int) (a3 : Int) (r : Bool) (w : World) (h : impl_Bfx.f k a0 a1 a2 a3 = some r) :
    Calls Try.prog 13 #[.int .u32 a0, .int .u32 a1, .int .u32 a2, .int .u32 a3] w fun e w' => e = .returned (.bool r) ∧ Drawn0 w w' := by
  have H : ((arm64asm_ZZBfxPreferred.f k a0 a1 a2 a3).bind fun t102 => (some t102)) = some r := h
  clear h
  replace H := Option.bind_eq_some_iff.mp H
  obtain ⟨t102, A50, H⟩ := H
  replace H : (some t102) = some r := H
  have A5 := Aside0.mk A50
  clear A50
  obtain rfl := Option.some.inj H
  go_enter Try.func13, Try.ntmps13
  go_wp2_with (first | ((with_reducible refine gate_callee (f := 23) rfl ?_); refine goesL_ (some 13) rfl rfl Try.func23 (by kernel_rfl) rfl #[.int .u32 a0, .int .u32 a1, .int .u32 a2, .int .u32 a3] rfl (by (try simp only [List.map_toArray, List.map_cons, List.map_nil]); first | done | rfl | (simp only [List.length_drop, List.length_take]; rfl)) ?_; (with_reducible refine (arm64asm_ZZBfxPreferred.calls k a0 a1 a2 a3 t102 _ A5.out).mono ?_); rintro e w' ⟨rfl, ⟨nd, rfl⟩⟩; refine ⟨_, rfl, ?_⟩))
  go_ret
  exact ⟨by first | rfl | (simp; done) | (simp [*]; done), by repeat (first | exact Drawn0.refl _ | apply Drawn0.step)⟩

/-! ### spec_Bfx: function 14 -/
def spec_Bfx.j0 : Nat → Int → Int → Int → Int → Bool → Option (Bool)
  | 0, _, _, _, _, _ => none
  | k + 1, x0, x1, x2, x3, x18 => if x18 = true then (some false) else (if x3 = 0 then (if x0 = 0 then (if x2 = 7 then (some false) else (if x2 = 15 then (some false) else (if x0 = 1 then (if x1 = 0 then (some (!(x2 == 31))) else (some (!false))) else (some (!false))))) else (if x0 = 1 then (if x1 = 0 then (if x2 = 7 then (some (!true)) else (if x2 = 15 then (some (!true)) else (some (!(x2 == 31))))) else (some (!false))) else (some (!false)))) else (some (!false)))
def spec_Bfx.f (k : Nat) (a0 : Int) (a1 : Int) (a2 : Int) (a3 : Int) : Option (Bool) := if a2 < a3 then (spec_Bfx.j0 k a0 a1 a2 a3 true) else (spec_Bfx.j0 k a0 a1 a2 a3 (a2 == (wrap64 ((wrap64 (32 * a0)) + 31))))
theorem spec_Bfx.mono_l : ∀ k, (∀ y0 y1 y2 y3 y4, LeO (spec_Bfx.j0 k y0 y1 y2 y3 y4) (spec_Bfx.j0 (k + 1) y0 y1 y2 y3 y4))
  | 0 => fun _ _ _ _ _ r h => by simp [spec_Bfx.j0] at h
  | k + 1 => by
    have ih0 := spec_Bfx.mono_l k
    · intro y0 y1 y2 y3 y4
      unfold spec_Bfx.j0
      repeat' first
      | (with_reducible exact ih0 _ _ _ _ _)
      | (with_reducible exact LeO.refl _)
      | (with_reducible exact LeO.none _)
      | (with_reducible refine LeO.ite ?_ ?_)
      | (with_reducible refine LeO.bind ?_ (fun _ => ?_))
      | exact ih0 _ _ _ _ _
      | exact LeO.none _
      | refine LeO.ite ?_ ?_
      | refine LeO.bind ?_ (fun _ => ?_)
theorem spec_Bfx.mono : ∀ a0 a1 a2 a3 k, LeO (spec_Bfx.f k a0 a1 a2 a3) (spec_Bfx.f (k + 1) a0 a1 a2 a3) := by
  intro a0 a1 a2 a3 k
  have ih0 := spec_Bfx.mono_l k
  unfold spec_Bfx.f
  repeat' first
      | (with_reducible exact ih0 _ _ _ _ _)
      | (with_reducible exact LeO.refl _)
      | (with_reducible exact LeO.none _)
      | (with_reducible refine LeO.ite ?_ ?_)
      | (with_reducible refine LeO.bind ?_ (fun _ => ?_))
      | exact ih0 _ _ _ _ _
      | exact LeO.none _
      | refine LeO.ite ?_ ?_
      | refine LeO.bind ?_ (fun _ => ?_)
set_option maxHeartbeats 8000000 in
set_option maxRecDepth 100000 in
theorem spec_Bfx.calls (k : Nat) (a0 : Int) (a1 : Int) (a2 : Int) (a3 : Int) (r : Bool) (w : World) (h : spec_Bfx.f k a0 a1 a2 a3 = some r) :
    Calls Try.prog 14 #[.int .i64 a0, .int .i64 a1, .int .i64 a2, .int .i64 a3] w fun e w' => e = .returned (.bool r) ∧ Drawn0 w w' := by
  have H : (if a2 < a3 then (spec_Bfx.j0 k a0 a1 a2 a3 true) else (spec_Bfx.j0 k a0 a1 a2 a3 (a2 == (wrap64 ((wrap64 (32 * a0)) + 31))))) = some r := h
  clear h
  have HC5 := Aside0.mk H
  clear H
  go_enter Try.func14, Try.ntmps14
  go_upto_region 1 with (fail)
  go_cut [18] (fun v18 wc => ∃ (kq : Nat) (x18_4 : Bool), v18 = .bool x18_4 ∧ Aside0 (spec_Bfx.j0 kq a0 a1 a2 a3 x18_4 = some r) ∧ Aside0 (kq ≤ k) ∧ Drawn0 w wc)
  case first =>
    have H := HC5.out
    clear HC5
    by_cases c6 : a2 < a3
    · rw [if_pos c6] at H
      have c6b0 : decide (a2 < a3) = true := decide_eq_true c6
      clear c6
      (first | rw [c6b0] | (simp only [i64_w, i32_w]; rw [c6b0]) | skip)
      have H' := Aside0.mk H
      clear H
      go_wp2
      go_meet
      case rel => exact ⟨_, (true), (by first | rfl | (simp; done) | (simp [*]; done)), H', ⟨by first | omega | exact Nat.le_refl _⟩, by repeat (first | exact Drawn0.refl _ | apply Drawn0.step)⟩
    · rw [if_neg c6] at H
      have c6b0 : decide (a2 < a3) = false := decide_eq_false c6
      clear c6
      (first | rw [c6b0] | (simp only [i64_w, i32_w]; rw [c6b0]) | skip)
      have H' := Aside0.mk H
      clear H
      go_wp2
      go_meet
      case rel => exact ⟨_, ((a2 == (wrap64 ((wrap64 (32 * a0)) + 31)))), (by first | rfl | (simp; done) | (simp [*]; done)), H', ⟨by first | omega | exact Nat.le_refl _⟩, by repeat (first | exact Drawn0.refl _ | apply Drawn0.step)⟩
  case rest =>
    clear HC5
    try clear c1
    try clear p2
    try clear c6
    try clear c6b0
    try clear p6
    obtain ⟨kq, x18_4, rfl, HA, HJ4, ⟨mc4, rfl⟩⟩ := hcut
    cases kq with
    | zero => exact absurd HA.out (by simp [spec_Bfx.j0])
    | succ kj4 =>
      have H := HA.out
      clear HA
      simp only [spec_Bfx.j0] at H
      by_cases c7 : x18_4 = true
      · subst c7
        have H1 : (some false) = some r := by rw [if_pos rfl] at H; exact H
        clear H
        have H := H1
        clear H1
        obtain rfl := Option.some.inj H
        go_wp2
        go_ret
        exact ⟨by first | rfl | (simp; done) | (simp [*]; done), by repeat (first | exact Drawn0.refl _ | apply Drawn0.step)⟩
      · replace c7 := Bool.eq_false_iff.mpr c7
        subst c7
        have H1 : (if a3 = 0 then (if a0 = 0 then (if a2 = 7 then (some false) else (if a2 = 15 then (some false) else (if a0 = 1 then (if a1 = 0 then (some (!(a2 == 31))) else (some (!false))) else (some (!false))))) else (if a0 = 1 then (if a1 = 0 then (if a2 = 7 then (some (!true)) else (if a2 = 15 then (some (!true)) else (some (!(a2 == 31))))) else (some (!false))) else (some (!false)))) else (some (!false))) = some r := by rw [if_neg (show ¬ (false = true) by decide)] at H; exact H
        clear H
        have H := H1
        clear H1
        by_cases c8 : a3 = 0
        · rw [if_pos c8] at H
          have c8b0 : (a3 == 0) = true := beq_iff_eq.mpr c8
          have c8b1 : (a3 != 0) = false := bne_eq_false_iff_eq.mpr c8
          clear c8
          by_cases c9 : a0 = 0
          · rw [if_pos c9] at H
            have c9b0 : (a0 == 0) = true := beq_iff_eq.mpr c9
            have c9b1 : (a0 != 0) = false := bne_eq_false_iff_eq.mpr c9
            clear c9
            by_cases c10 : a2 = 7
            · rw [if_pos c10] at H
              have c10b0 : (a2 == 7) = true := beq_iff_eq.mpr c10
              have c10b1 : (a2 != 7) = false := bne_eq_false_iff_eq.mpr c10
              clear c10
              obtain rfl := Option.some.inj H
              go_wp2
              go_ret
              exact ⟨by first | rfl | (simp; done) | (simp [*]; done), by repeat (first | exact Drawn0.refl _ | apply Drawn0.step)⟩
            · rw [if_neg c10] at H
              have c10b0 : (a2 == 7) = false := beq_eq_false_iff_ne.mpr c10
              have c10b1 : (a2 != 7) = true := bne_iff_ne.mpr c10
              by_cases c11 : a2 = 15
              · rw [if_pos c11] at H
                have c11b0 : (a2 == 15) = true := beq_iff_eq.mpr c11
                have c11b1 : (a2 != 15) = false := bne_eq_false_iff_eq.mpr c11
                clear c11
                obtain rfl := Option.some.inj H
                go_wp2
                go_ret
                exact ⟨by first | rfl | (simp; done) | (simp [*]; done), by repeat (first | exact Drawn0.refl _ | apply Drawn0.step)⟩
              · rw [if_neg c11] at H
                have c11b0 : (a2 == 15) = false := beq_eq_false_iff_ne.mpr c11
                have c11b1 : (a2 != 15) = true := bne_iff_ne.mpr c11
                by_cases c12 : a0 = 1
                · rw [if_pos c12] at H
                  have c12b0 : (a0 == 1) = true := beq_iff_eq.mpr c12
                  have c12b1 : (a0 != 1) = false := bne_eq_false_iff_eq.mpr c12
                  clear c12
                  by_cases c13 : a1 = 0
                  · rw [if_pos c13] at H
                    have c13b0 : (a1 == 0) = true := beq_iff_eq.mpr c13
                    have c13b1 : (a1 != 0) = false := bne_eq_false_iff_eq.mpr c13
                    clear c13
                    obtain rfl := Option.some.inj H
                    go_wp2
                    go_ret
                    exact ⟨by first | rfl | (simp; done) | (simp [*]; done), by repeat (first | exact Drawn0.refl _ | apply Drawn0.step)⟩
                  · rw [if_neg c13] at H
                    have c13b0 : (a1 == 0) = false := beq_eq_false_iff_ne.mpr c13
                    have c13b1 : (a1 != 0) = true := bne_iff_ne.mpr c13
                    obtain rfl := Option.some.inj H
                    go_wp2
                    go_ret
                    exact ⟨by first | rfl | (simp; done) | (simp [*]; done), by repeat (first | exact Drawn0.refl _ | apply Drawn0.step)⟩
                · rw [if_neg c12] at H
                  have c12b0 : (a0 == 1) = false := beq_eq_false_iff_ne.mpr c12
                  have c12b1 : (a0 != 1) = true := bne_iff_ne.mpr c12
                  obtain rfl := Option.some.inj H
                  go_wp2
                  go_ret
                  exact ⟨by first | rfl | (simp; done) | (simp [*]; done), by repeat (first | exact Drawn0.refl _ | apply Drawn0.step)⟩
          · rw [if_neg c9] at H
            have c9b0 : (a0 == 0) = false := beq_eq_false_iff_ne.mpr c9
            have c9b1 : (a0 != 0) = true := bne_iff_ne.mpr c9
            by_cases c14 : a0 = 1
            · rw [if_pos c14] at H
              have c14b0 : (a0 == 1) = true := beq_iff_eq.mpr c14
              have c14b1 : (a0 != 1) = false := bne_eq_false_iff_eq.mpr c14
              clear c14
              by_cases c15 : a1 = 0
              · rw [if_pos c15] at H
                have c15b0 : (a1 == 0) = true := beq_iff_eq.mpr c15
                have c15b1 : (a1 != 0) = false := bne_eq_false_iff_eq.mpr c15
                clear c15
                by_cases c16 : a2 = 7
                · rw [if_pos c16] at H
                  have c16b0 : (a2 == 7) = true := beq_iff_eq.mpr c16
                  have c16b1 : (a2 != 7) = false := bne_eq_false_iff_eq.mpr c16
                  clear c16
                  obtain rfl := Option.some.inj H
                  go_wp2
                  go_ret
                  exact ⟨by first | rfl | (simp; done) | (simp [*]; done), by repeat (first | exact Drawn0.refl _ | apply Drawn0.step)⟩
                · rw [if_neg c16] at H
                  have c16b0 : (a2 == 7) = false := beq_eq_false_iff_ne.mpr c16
                  have c16b1 : (a2 != 7) = true := bne_iff_ne.mpr c16
                  by_cases c17 : a2 = 15
                  · rw [if_pos c17] at H
                    have c17b0 : (a2 == 15) = true := beq_iff_eq.mpr c17
                    have c17b1 : (a2 != 15) = false := bne_eq_false_iff_eq.mpr c17
                    clear c17
                    obtain rfl := Option.some.inj H
                    go_wp2
                    go_ret
                    exact ⟨by first | rfl | (simp; done) | (simp [*]; done), by repeat (first | exact Drawn0.refl _ | apply Drawn0.step)⟩
                  · rw [if_neg c17] at H
                    have c17b0 : (a2 == 15) = false := beq_eq_false_iff_ne.mpr c17
                    have c17b1 : (a2 != 15) = true := bne_iff_ne.mpr c17
                    obtain rfl := Option.some.inj H
                    go_wp2
                    go_ret
                    exact ⟨by first | rfl | (simp; done) | (simp [*]; done), by repeat (first | exact Drawn0.refl _ | apply Drawn0.step)⟩
              · rw [if_neg c15] at H
                have c15b0 : (a1 == 0) = false := beq_eq_false_iff_ne.mpr c15
                have c15b1 : (a1 != 0) = true := bne_iff_ne.mpr c15
                obtain rfl := Option.some.inj H
                go_wp2
                go_ret
                exact ⟨by first | rfl | (simp; done) | (simp [*]; done), by repeat (first | exact Drawn0.refl _ | apply Drawn0.step)⟩
            · rw [if_neg c14] at H
              have c14b0 : (a0 == 1) = false := beq_eq_false_iff_ne.mpr c14
              have c14b1 : (a0 != 1) = true := bne_iff_ne.mpr c14
              obtain rfl := Option.some.inj H
              go_wp2
              go_ret
              exact ⟨by first | rfl | (simp; done) | (simp [*]; done), by repeat (first | exact Drawn0.refl _ | apply Drawn0.step)⟩
        · rw [if_neg c8] at H
          have c8b0 : (a3 == 0) = false := beq_eq_false_iff_ne.mpr c8
          have c8b1 : (a3 != 0) = true := bne_iff_ne.mpr c8
          obtain rfl := Option.some.inj H
          go_wp2
          go_ret
          exact ⟨by first | rfl | (simp; done) | (simp [*]; done), by repeat (first | exact Drawn0.refl _ | apply Drawn0.step)⟩

/-! ### laws_FnBfx: function 5 -/
def laws_FnBfx.j0 : Nat → Int → Int → Int → Int → Bool → Option (Bool)
  | 0, _, _, _, _, _ => none
  | k + 1, x0, x1, x2, x3, x38 => if x38 = true then (some true) else ((impl_Bfx.f k ((x0) % 4294967296) ((x1) % 4294967296) ((x2) % 4294967296) ((x3) % 4294967296)).bind fun t103 => ((spec_Bfx.f k x0 x1 x2 x3).bind fun t104 => (some (t103 == t104))))
def laws_FnBfx.f (k : Nat) (a0 : Int) (a1 : Int) (a2 : Int) (a3 : Int) : Option (Bool) := if a0 < 0 then (laws_FnBfx.j0 k a0 a1 a2 a3 true) else (if a0 > 1 then (laws_FnBfx.j0 k a0 a1 a2 a3 true) else (if a1 < 0 then (laws_FnBfx.j0 k a0 a1 a2 a3 true) else (if a1 > 1 then (laws_FnBfx.j0 k a0 a1 a2 a3 true) else (if a2 < 0 then (laws_FnBfx.j0 k a0 a1 a2 a3 true) else (if a2 > 63 then (laws_FnBfx.j0 k a0 a1 a2 a3 true) else (if a3 < 0 then (laws_FnBfx.j0 k a0 a1 a2 a3 true) else (laws_FnBfx.j0 k a0 a1 a2 a3 (decide (a3 > 63)))))))))
theorem laws_FnBfx.mono_l : ∀ k, (∀ y0 y1 y2 y3 y4, LeO (laws_FnBfx.j0 k y0 y1 y2 y3 y4) (laws_FnBfx.j0 (k + 1) y0 y1 y2 y3 y4))
  | 0 => fun _ _ _ _ _ r h => by simp [laws_FnBfx.j0] at h
  | k + 1 => by
    have ih0 := laws_FnBfx.mono_l k
    · intro y0 y1 y2 y3 y4
      unfold laws_FnBfx.j0
      repeat' first
      | (with_reducible exact ih0 _ _ _ _ _)
      | (with_reducible exact impl_Bfx.mono _ _ _ _ _)
      | (with_reducible exact spec_Bfx.mono _ _ _ _ _)
      | (with_reducible exact LeO.refl _)
      | (with_reducible exact LeO.none _)
      | (with_reducible refine LeO.ite ?_ ?_)
      | (with_reducible refine LeO.bind ?_ (fun _ => ?_))
      | exact ih0 _ _ _ _ _
      | exact impl_Bfx.mono _ _ _ _ _
      | exact spec_Bfx.mono _ _ _ _ _
      | exact LeO.none _
      | refine LeO.ite ?_ ?_
      | refine LeO.bind ?_ (fun _ => ?_)
theorem laws_FnBfx.mono : ∀ a0 a1 a2 a3 k, LeO (laws_FnBfx.f k a0 a1 a2 a3) (laws_FnBfx.f (k + 1) a0 a1 a2 a3) := by
  intro a0 a1 a2 a3 k
  have ih0 := laws_FnBfx.mono_l k
  unfold laws_FnBfx.f
  repeat' first
      | (with_reducible exact ih0 _ _ _ _ _)
      | (with_reducible exact impl_Bfx.mono _ _ _ _ _)
      | (with_reducible exact spec_Bfx.mono _ _ _ _ _)
      | (with_reducible exact LeO.refl _)
      | (with_reducible exact LeO.none _)
      | (with_reducible refine LeO.ite ?_ ?_)
      | (with_reducible refine LeO.bind ?_ (fun _ => ?_))
      | exact ih0 _ _ _ _ _
      | exact impl_Bfx.mono _ _ _ _ _
      | exact spec_Bfx.mono _ _ _ _ _
      | exact LeO.none _
      | refine LeO.ite ?_ ?_
      | refine LeO.bind ?_ (fun _ => ?_)
set_option maxHeartbeats 8000000 in
set_option maxRecDepth 100000 in
theorem laws_FnBfx.calls (k : Nat) (a0 : Int) (a1 : Int) (a2 : Int) (a3 : Int) (r : Bool) (w : World) (h : laws_FnBfx.f k a0 a1 a2 a3 = some r) :
    Calls Try.prog 5 #[.int .i64 a0, .int .i64 a1, .int .i64 a2, .int .i64 a3] w fun e w' => e = .returned (.bool r) ∧ Drawn0 w w' := by
  have H : (if a0 < 0 then (laws_FnBfx.j0 k a0 a1 a2 a3 true) else (if a0 > 1 then (laws_FnBfx.j0 k a0 a1 a2 a3 true) else (if a1 < 0 then (laws_FnBfx.j0 k a0 a1 a2 a3 true) else (if a1 > 1 then (laws_FnBfx.j0 k a0 a1 a2 a3 true) else (if a2 < 0 then (laws_FnBfx.j0 k a0 a1 a2 a3 true) else (if a2 > 63 then (laws_FnBfx.j0 k a0 a1 a2 a3 true) else (if a3 < 0 then (laws_FnBfx.j0 k a0 a1 a2 a3 true) else (laws_FnBfx.j0 k a0 a1 a2 a3 (decide (a3 > 63)))))))))) = some r := h
  clear h
  have HC5 := Aside0.mk H
  clear H
  go_enter Try.func5, Try.ntmps5
  go_upto_region 1 with (fail)
  go_cut [38] (fun v38 wc => ∃ (kq : Nat) (x38_4 : Bool), v38 = .bool x38_4 ∧ Aside0 (laws_FnBfx.j0 kq a0 a1 a2 a3 x38_4 = some r) ∧ Aside0 (kq ≤ k) ∧ Drawn0 w wc)
  case first =>
    have H := HC5.out
    clear HC5
    by_cases c6 : a0 < 0
    · rw [if_pos c6] at H
      have c6b0 : decide (a0 < 0) = true := decide_eq_true c6
      clear c6
      (first | rw [c6b0] | (simp only [i64_w, i32_w]; rw [c6b0]) | skip)
      have H' := Aside0.mk H
      clear H
      go_wp2
      go_meet
      case rel => exact ⟨_, (true), (by first | rfl | (simp; done) | (simp [*]; done)), H', ⟨by first | omega | exact Nat.le_refl _⟩, by repeat (first | exact Drawn0.refl _ | apply Drawn0.step)⟩
    · rw [if_neg c6] at H
      have c6b0 : decide (a0 < 0) = false := decide_eq_false c6
      clear c6
      (first | rw [c6b0] | (simp only [i64_w, i32_w]; rw [c6b0]) | skip)
      by_cases c7 : a0 > 1
      · rw [if_pos c7] at H
        have c7b0 : decide (1 < a0) = true := decide_eq_true c7
        clear c7
        have H' := Aside0.mk H
        clear H
        go_wp2
        go_meet
        case rel => exact ⟨_, (true), (by first | rfl | (simp; done) | (simp [*]; done)), H', ⟨by first | omega | exact Nat.le_refl _⟩, by repeat (first | exact Drawn0.refl _ | apply Drawn0.step)⟩
      · rw [if_neg c7] at H
        have c7b0 : decide (1 < a0) = false := decide_eq_false c7
        clear c7
        by_cases c8 : a1 < 0
        · rw [if_pos c8] at H
          have c8b0 : decide (a1 < 0) = true := decide_eq_true c8
          clear c8
          have H' := Aside0.mk H
          clear H
          go_wp2
          go_meet
          case rel => exact ⟨_, (true), (by first | rfl | (simp; done) | (simp [*]; done)), H', ⟨by first | omega | exact Nat.le_refl _⟩, by repeat (first | exact Drawn0.refl _ | apply Drawn0.step)⟩
        · rw [if_neg c8] at H
          have c8b0 : decide (a1 < 0) = false := decide_eq_false c8
          clear c8
          by_cases c9 : a1 > 1
          · rw [if_pos c9] at H
            have c9b0 : decide (1 < a1) = true := decide_eq_true c9
            clear c9
            have H' := Aside0.mk H
            clear H
            go_wp2
            go_meet
            case rel => exact ⟨_, (true), (by first | rfl | (simp; done) | (simp [*]; done)), H', ⟨by first | omega | exact Nat.le_refl _⟩, by repeat (first | exact Drawn0.refl _ | apply Drawn0.step)⟩
          · rw [if_neg c9] at H
            have c9b0 : decide (1 < a1) = false := decide_eq_false c9
            clear c9
            by_cases c10 : a2 < 0
            · rw [if_pos c10] at H
              have c10b0 : decide (a2 < 0) = true := decide_eq_true c10
              clear c10
              have H' := Aside0.mk H
              clear H
              go_wp2
              go_meet
              case rel => exact ⟨_, (true), (by first | rfl | (simp; done) | (simp [*]; done)), H', ⟨by first | omega | exact Nat.le_refl _⟩, by repeat (first | exact Drawn0.refl _ | apply Drawn0.step)⟩
            · rw [if_neg c10] at H
              have c10b0 : decide (a2 < 0) = false := decide_eq_false c10
              clear c10
              by_cases c11 : a2 > 63
              · rw [if_pos c11] at H
                have c11b0 : decide (63 < a2) = true := decide_eq_true c11
                clear c11
                have H' := Aside0.mk H
                clear H
                go_wp2
                go_meet
                case rel => exact ⟨_, (true), (by first | rfl | (simp; done) | (simp [*]; done)), H', ⟨by first | omega | exact Nat.le_refl _⟩, by repeat (first | exact Drawn0.refl _ | apply Drawn0.step)⟩
              · rw [if_neg c11] at H
                have c11b0 : decide (63 < a2) = false := decide_eq_false c11
                clear c11
                by_cases c12 : a3 < 0
                · rw [if_pos c12] at H
                  have c12b0 : decide (a3 < 0) = true := decide_eq_true c12
                  clear c12
                  have H' := Aside0.mk H
                  clear H
                  go_wp2
                  go_meet
                  case rel => exact ⟨_, (true), (by first | rfl | (simp; done) | (simp [*]; done)), H', ⟨by first | omega | exact Nat.le_refl _⟩, by repeat (first | exact Drawn0.refl _ | apply Drawn0.step)⟩
                · rw [if_neg c12] at H
                  have c12b0 : decide (a3 < 0) = false := decide_eq_false c12
                  clear c12
                  have H' := Aside0.mk H
                  clear H
                  go_wp2
                  go_meet
                  case rel => exact ⟨_, (decide (a3 > 63)), (by first | rfl | (simp; done) | (simp [*]; done)), H', ⟨by first | omega | exact Nat.le_refl _⟩, by repeat (first | exact Drawn0.refl _ | apply Drawn0.step)⟩
  case rest =>
    clear HC5
    try clear c1
    try clear p2
    try clear c5
    try clear c6
    try clear c6b0
    try clear c7
    try clear c7b0
    try clear c8
    try clear c8b0
    try clear c9
    try clear c9b0
    try clear c10
    try clear c10b0
    try clear c11
    try clear c11b0
    try clear c12
    try clear c12b0
    obtain ⟨kq, x38_4, rfl, HA, HJ4, ⟨mc4, rfl⟩⟩ := hcut
    cases kq with
    | zero => exact absurd HA.out (by simp [laws_FnBfx.j0])
    | succ kj4 =>
      have H := HA.out
      clear HA
      simp only [laws_FnBfx.j0] at H
      by_cases c13 : x38_4 = true
      · subst c13
        have H1 : (some true) = some r := by rw [if_pos rfl] at H; exact H
        clear H
        have H := H1
        clear H1
        obtain rfl := Option.some.inj H
        go_wp2
        go_ret
        exact ⟨by first | rfl | (simp; done) | (simp [*]; done), by repeat (first | exact Drawn0.refl _ | apply Drawn0.step)⟩
      · replace c13 := Bool.eq_false_iff.mpr c13
        subst c13
        have H1 : ((impl_Bfx.f kj4 ((a0) % 4294967296) ((a1) % 4294967296) ((a2) % 4294967296) ((a3) % 4294967296)).bind fun t103 => ((spec_Bfx.f kj4 a0 a1 a2 a3).bind fun t104 => (some (t103 == t104)))) = some r := by rw [if_neg (show ¬ (false = true) by decide)] at H; exact H
        clear H
        have H := H1
        clear H1
        replace H := Option.bind_eq_some_iff.mp H
        obtain ⟨t103, A140, H⟩ := H
        replace H : ((spec_Bfx.f kj4 a0 a1 a2 a3).bind fun t104 => (some (t103 == t104))) = some r := H
        have A14 := Aside0.mk A140
        clear A140
        replace H := Option.bind_eq_some_iff.mp H
        obtain ⟨t104, A150, H⟩ := H
        replace H : (some (t103 == t104)) = some r := H
        have A15 := Aside0.mk A150
        clear A150
        obtain rfl := Option.some.inj H
        go_wp2_with (first | ((with_reducible refine gate_callee (f := 13) rfl ?_); refine goesL_ (some 47) rfl rfl Try.func13 (by kernel_rfl) rfl #[.int .u32 ((a0) % 4294967296), .int .u32 ((a1) % 4294967296), .int .u32 ((a2) % 4294967296), .int .u32 ((a3) % 4294967296)] rfl (by (try simp only [List.map_toArray, List.map_cons, List.map_nil]); first | done | rfl | (simp only [List.length_drop, List.length_take]; rfl)) ?_; (with_reducible refine (impl_Bfx.calls kj4 ((a0) % 4294967296) ((a1) % 4294967296) ((a2) % 4294967296) ((a3) % 4294967296) t103 _ A14.out).mono ?_); rintro e w' ⟨rfl, ⟨nd, rfl⟩⟩; refine ⟨_, rfl, ?_⟩) | ((with_reducible refine gate_callee (f := 14) rfl ?_); refine goesL_ (some 52) rfl rfl Try.func14 (by kernel_rfl) rfl #[.int .i64 a0, .int .i64 a1, .int .i64 a2, .int .i64 a3] rfl (by (try simp only [List.map_toArray, List.map_cons, List.map_nil]); first | done | rfl | (simp only [List.length_drop, List.length_take]; rfl)) ?_; (with_reducible refine (spec_Bfx.calls kj4 a0 a1 a2 a3 t104 _ A15.out).mono ?_); rintro e w' ⟨rfl, ⟨nd, rfl⟩⟩; refine ⟨_, rfl, ?_⟩))
        go_ret
        exact ⟨by first | rfl | (simp; done) | (simp [*]; done), by repeat (first | exact Drawn0.refl _ | apply Drawn0.step)⟩

/-- THE ONE PURE STATEMENT of laws_FnBfx: yours. -/
def laws_FnBfx.Pure : Prop := ∀ (a0 : Int) (a1 : Int) (a2 : Int) (a3 : Int), (Lit.int .i64 a0).wf = true → (Lit.int .i64 a1).wf = true → (Lit.int .i64 a2).wf = true → (Lit.int .i64 a3).wf = true → ∃ k, laws_FnBfx.f k a0 a1 a2 a3 = some true
theorem laws_FnBfx.walk (P : laws_FnBfx.Pure) (a0 : Int) (a1 : Int) (a2 : Int) (a3 : Int) (w : World) (w0 : (Lit.int .i64 a0).wf = true) (w1 : (Lit.int .i64 a1).wf = true) (w2 : (Lit.int .i64 a2).wf = true) (w3 : (Lit.int .i64 a3).wf = true) :
    Calls Try.prog 5 #[.int .i64 a0, .int .i64 a1, .int .i64 a2, .int .i64 a3] w fun e w' => e = .returned (.bool true) ∧ Below w.heap.size w w' := by
  obtain ⟨k, h⟩ := P a0 a1 a2 a3 w0 w1 w2 w3
  refine (laws_FnBfx.calls k a0 a1 a2 a3 true w h).mono ?_
  rintro e w' ⟨rfl, hd⟩
  exact ⟨rfl, hd.below⟩

end Go.Proofs.Ythcboddeannjcaa.PFnBfx
