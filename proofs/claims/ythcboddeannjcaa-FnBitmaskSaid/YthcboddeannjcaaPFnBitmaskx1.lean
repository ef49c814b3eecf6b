-- PRINTED BY print.sh 35421559b90ae4d0a3588c463048766b98c2df88dd9212a6774a882060cdf62d: not written by this session
import Derived.Test.YthcboddeannjcaaPFnBitmaskx0
namespace Go.Proofs.Ythcboddeannjcaa.PFnBitmask
open Go.RowKit Go.Proofs.YthcboddeannjcaaW.PrintWords Go.Proofs.YthcboddeannjcaaW.PrintLast Go.Proofs.YthcboddeannjcaaW.PrintMore
attribute [local go_sem] max2_int min2_int max_two min_two max_three min_three max_four min_four   -- for this text's walks alone
set_option linter.unusedVariables false
set_option linter.unusedSimpArgs false

/-! ### spec_Full: function 17 -/
def spec_Full.l0 : Nat → Int → List Int → Int → Int → Option (Bool)
  | 0, _, _, _, _ => none
  | k + 1, x1, x11, x12, x13 => if x13 < x12 then (if 0 ≤ x13 then (if x13 < (x11.length : Int) then (if (rd x11 x13) = 0 then (none) else (if (Int.tmod (wrap64 (Int.tdiv x1 (rd x11 x13))) 2) = 0 then (if x1 ≥ (wrap64 (64 - (wrap64 (2 * (rd x11 x13))))) then (some ((Int.tmod x1 (rd x11 x13)) == (wrap64 ((rd x11 x13) - 1)))) else (spec_Full.l0 k x1 x11 x12 (wrap64 (x13 + 1)))) else (spec_Full.l0 k x1 x11 x12 (wrap64 (x13 + 1))))) else (none)) else (none)) else (some false)
def spec_Full.f (k : Nat) (a0 : Int) (a1 : Int) : Option (Bool) := if a0 = 1 then (some (a1 == 63)) else ((some (([2, 4, 8, 16, 32] : List Int) : List Int)).bind fun y101 => (spec_Full.l0 k a1 y101 (y101.length : Int) 0))
theorem spec_Full.mono_l : ∀ k, (∀ y0 y1 y2 y3, LeO (spec_Full.l0 k y0 y1 y2 y3) (spec_Full.l0 (k + 1) y0 y1 y2 y3))
  | 0 => fun _ _ _ _ r h => by simp [spec_Full.l0] at h
  | k + 1 => by
    have ih0 := spec_Full.mono_l k
    · intro y0 y1 y2 y3
      unfold spec_Full.l0
      repeat' first
      | (with_reducible exact ih0 _ _ _ _)
      | (with_reducible exact LeO.refl _)
      | (with_reducible exact LeO.none _)
      | (with_reducible refine LeO.ite ?_ ?_)
      | (with_reducible refine LeO.bind ?_ (fun _ => ?_))
      | exact ih0 _ _ _ _
      | exact LeO.none _
      | refine LeO.ite ?_ ?_
      | refine LeO.bind ?_ (fun _ => ?_)
theorem spec_Full.mono : ∀ a0 a1 k, LeO (spec_Full.f k a0 a1) (spec_Full.f (k + 1) a0 a1) := by
  intro a0 a1 k
  have ih0 := spec_Full.mono_l k
  unfold spec_Full.f
  repeat' first
      | (with_reducible exact ih0 _ _ _ _)
      | (with_reducible exact LeO.refl _)
      | (with_reducible exact LeO.none _)
      | (with_reducible refine LeO.ite ?_ ?_)
      | (with_reducible refine LeO.bind ?_ (fun _ => ?_))
      | exact ih0 _ _ _ _
      | exact LeO.none _
      | refine LeO.ite ?_ ?_
      | refine LeO.bind ?_ (fun _ => ?_)
set_option maxHeartbeats 8000000 in
set_option maxRecDepth 100000 in
theorem spec_Full.calls (k : Nat) (a0 : Int) (a1 : Int) (r : Bool) (w : World) (h : spec_Full.f k a0 a1 = some r) :
    Calls Try.prog 17 #[.int .i64 a0, .int .i64 a1] w fun e w' => e = .returned (.bool r) ∧ Below w.heap.size w w' := by
  have HB := Aside0.mk (Below.refl w.heap.size w)
  have H : (if a0 = 1 then (some (a1 == 63)) else ((some (([2, 4, 8, 16, 32] : List Int) : List Int)).bind fun y101 => (spec_Full.l0 k a1 y101 (y101.length : Int) 0))) = some r := h
  clear h
  by_cases c3 : a0 = 1
  · rw [if_pos c3] at H
    have c3b0 : (a0 == 1) = true := beq_iff_eq.mpr c3
    have c3b1 : (a0 != 1) = false := bne_eq_false_iff_eq.mpr c3
    clear c3
    obtain rfl := Option.some.inj H
    go_enter Try.func17, Try.ntmps17
    go_wp2
    go_ret
    exact ⟨by first | rfl | (simp [errW_none, errW_some] <;> rfl) | (simp [*, errW_none, errW_some] <;> rfl), by repeat (first | (with_reducible first | exact HB.out | apply below_alloc | apply pw_below_drewN | apply below_drew1) | exact HB.out)⟩
  · rw [if_neg c3] at H
    have c3b0 : (a0 == 1) = false := beq_eq_false_iff_ne.mpr c3
    have c3b1 : (a0 != 1) = true := bne_iff_ne.mpr c3
    obtain ⟨y101, hy101⟩ : ∃ y_ : List Int, y_ = (([2, 4, 8, 16, 32] : List Int)) := ⟨_, rfl⟩
    replace H : (spec_Full.l0 k a1 y101 (y101.length : Int) 0) = some r := by first | (rw [hy101]; with_reducible exact H) | (have H2_ := (Option.bind_some _ _).symm.trans H; rw [hy101]; with_reducible exact H2_) | (have H2_ := (Option.bind_some _ _).symm.trans H; with_reducible exact H2_) | with_reducible exact H | (rw [hy101]; exact H) | exact H
    have Ny101 := Aside0.mk hy101
    clear hy101
    have H' := Aside0.mk H
    clear H
    go_enter Try.func17, Try.ntmps17
    go_wp2_with (first | ((with_reducible refine gate_dst (N := 11) rfl ?_); refine Kd.R_lit (Kd.int .i64) _ 3 ?hg (N := 11) ?hd (xs := ([2, 4, 8, 16, 32] : List Int)) (inner := [.int .i64 2, .int .i64 4, .int .i64 8, .int .i64 16, .int .i64 32]) (ok := fun _ => True) (okp := fun _ => True) ?hr ?hp (fun _ hk => hk) trivial (Below.refl _ _) (Nat.le_refl _) (by simp) ?_; (case hd => rfl); (case hg => rfl); (case hr => first | (go_simp; done) | (go_simp; rfl)); (case hp => exact (Reps.one (show Kd.M (Kd.int .i64) _ _ _ 2 [.int .i64 2] from rfl) (Reps.one (show Kd.M (Kd.int .i64) _ _ _ 4 [.int .i64 4] from rfl) (Reps.one (show Kd.M (Kd.int .i64) _ _ _ 8 [.int .i64 8] from rfl) (Reps.one (show Kd.M (Kd.int .i64) _ _ _ 16 [.int .i64 16] from rfl) (Reps.one (show Kd.M (Kd.int .i64) _ _ _ 32 [.int .i64 32] from rfl) (Reps.none _ _))))))); intro v102 w4 ho5 hb hg_ hnew_; clear hg_ hnew_; (first | rw [← Ny101.out] at ho5 | (simp only [Int.reduceToNat] at ho5; rw [← Ny101.out] at ho5)); have n0_ := Aside0.mk (Kd.R_lower ho5 (below_size (by repeat (first | (with_reducible first | exact HB.out | apply below_alloc | apply pw_below_drewN | apply below_drew1) | exact HB.out)))); have n1_ := Aside0.mk (below_step (by repeat (first | (with_reducible first | exact HB.out | apply below_alloc | apply pw_below_drewN | apply below_drew1) | exact HB.out)) hb); clear HB; have HO103 := n0_; have HB := n1_; clear n0_ n1_; clear hb ho5; obtain ⟨Ao6, co6, eo6⟩ := Kd.R_slice HO103.out; subst eo6))
    go_loopg [13] k (fun kq v13 w' => ∃ (x13_1 : Int), v13 = .int .i64 x13_1 ∧ Aside0 (spec_Full.l0 kq a1 y101 (y101.length : Int) x13_1 = some r) ∧ Aside0 (kq ≤ k) ∧ Aside0 (Kd.R (Kd.int .i64) 3 w' w.heap.size (fun _ => True) (.slice Ao6 y101.length co6) y101) ∧ Aside0 (Below w.heap.size w w'))
    case atStart => exact ⟨(0), (by first | rfl | (simp; done) | (simp [*]; done)), H', ⟨Nat.le_refl _⟩, ⟨by (with_reducible repeat (first | apply Kd.R_alloc | apply Kd.R_drewN | apply Kd.R_drew)); exact HO103.out⟩, ⟨by repeat (first | (with_reducible first | exact HB.out | apply below_alloc | apply pw_below_drewN | apply below_drew1) | exact HB.out)⟩⟩
    case round =>
      clear H'
      try clear c1
      try clear p2
      try clear c3
      try clear c3b0
      try clear c3b1
      obtain ⟨x13_1, rfl, HA, HK1, HO_11, HB⟩ := hrel
      cases gk with
      | zero => exact absurd HA.out (by simp [spec_Full.l0])
      | succ k1 =>
        have H := HA.out
        clear HA
        simp only [spec_Full.l0] at H
        by_cases c7 : x13_1 < (y101.length : Int)
        · rw [if_pos c7] at H
          have c7b0 : decide (x13_1 < (y101.length : Int)) = true := decide_eq_true c7
          clear c7
          by_cases c8 : 0 ≤ x13_1
          · rw [if_pos c8] at H
            have c8b0 : decide (0 ≤ x13_1) = true := decide_eq_true c8
            clear c8
            by_cases c9 : x13_1 < (y101.length : Int)
            · rw [if_pos c9] at H
              have c9b0 : decide (x13_1 < (y101.length : Int)) = true := decide_eq_true c9
              clear c9
              by_cases c10 : (rd y101 x13_1) = 0
              · rw [if_pos c10] at H
                exact absurd H (by simp)
              · rw [if_neg c10] at H
                have c10b0 : ((rd y101 x13_1) == 0) = false := beq_eq_false_iff_ne.mpr c10
                have c10b1 : ((rd y101 x13_1) != 0) = true := bne_iff_ne.mpr c10
                by_cases c11 : (Int.tmod (wrap64 (Int.tdiv a1 (rd y101 x13_1))) 2) = 0
                · rw [if_pos c11] at H
                  have c11b0 : ((Int.tmod (wrap64 (Int.tdiv a1 (rd y101 x13_1))) 2) == 0) = true := beq_iff_eq.mpr c11
                  have c11b1 : ((Int.tmod (wrap64 (Int.tdiv a1 (rd y101 x13_1))) 2) != 0) = false := bne_eq_false_iff_eq.mpr c11
                  clear c11
                  by_cases c12 : a1 ≥ (wrap64 (64 - (wrap64 (2 * (rd y101 x13_1)))))
                  · rw [if_pos c12] at H
                    have c12b0 : decide ((wrap64 (64 - (wrap64 (2 * (rd y101 x13_1))))) ≤ a1) = true := decide_eq_true c12
                    clear c12
                    obtain rfl := Option.some.inj H
                    have p104 : 0 ≤ (x13_1 : Int) := of_decide_eq_true (by first | (with_reducible assumption) | assumption)
                    have q104 : x13_1 < (y101.length : Int) := of_decide_eq_true (by first | (with_reducible assumption) | assumption)
                    obtain ⟨ad104, e104, hx104_0⟩ := Kd.at_int (Kd.R_reads' HO_11.out).2.2 x13_1 p104 q104
                    cases e104
                    replace p104 := eq_true p104
                    replace q104 := eq_true q104
                    go_wp2
                    go_ret
                    exact ⟨by first | rfl | (simp [errW_none, errW_some] <;> rfl) | (simp [*, errW_none, errW_some] <;> rfl), by repeat (first | (with_reducible first | exact HB.out | apply below_alloc | apply pw_below_drewN | apply below_drew1) | exact HB.out)⟩
                  · rw [if_neg c12] at H
                    have c12b0 : decide ((wrap64 (64 - (wrap64 (2 * (rd y101 x13_1))))) ≤ a1) = false := decide_eq_false c12
                    clear c12
                    have H' := Aside0.mk H
                    clear H
                    have p104 : 0 ≤ (x13_1 : Int) := of_decide_eq_true (by first | (with_reducible assumption) | assumption)
                    have q104 : x13_1 < (y101.length : Int) := of_decide_eq_true (by first | (with_reducible assumption) | assumption)
                    obtain ⟨ad104, e104, hx104_0⟩ := Kd.at_int (Kd.R_reads' HO_11.out).2.2 x13_1 p104 q104
                    cases e104
                    replace p104 := eq_true p104
                    replace q104 := eq_true q104
                    go_wp2
                    go_roundg k1
                    case measure => have := HK1.out; omega
                    case rel => exact ⟨(wrap64 (x13_1 + 1)), (by first | rfl | (simp; done) | (simp [*]; done)), H', ⟨by have := HK1.out; omega⟩, ⟨by (with_reducible repeat (first | apply Kd.R_alloc | apply Kd.R_drewN | apply Kd.R_drew)); exact HO_11.out⟩, ⟨by repeat (first | (with_reducible first | exact HB.out | apply below_alloc | apply pw_below_drewN | apply below_drew1) | exact HB.out)⟩⟩
                · rw [if_neg c11] at H
                  have c11b0 : ((Int.tmod (wrap64 (Int.tdiv a1 (rd y101 x13_1))) 2) == 0) = false := beq_eq_false_iff_ne.mpr c11
                  have c11b1 : ((Int.tmod (wrap64 (Int.tdiv a1 (rd y101 x13_1))) 2) != 0) = true := bne_iff_ne.mpr c11
                  have H' := Aside0.mk H
                  clear H
                  have p104 : 0 ≤ (x13_1 : Int) := of_decide_eq_true (by first | (with_reducible assumption) | assumption)
                  have q104 : x13_1 < (y101.length : Int) := of_decide_eq_true (by first | (with_reducible assumption) | assumption)
                  obtain ⟨ad104, e104, hx104_0⟩ := Kd.at_int (Kd.R_reads' HO_11.out).2.2 x13_1 p104 q104
                  cases e104
                  replace p104 := eq_true p104
                  replace q104 := eq_true q104
                  go_wp2
                  go_roundg k1
                  case measure => have := HK1.out; omega
                  case rel => exact ⟨(wrap64 (x13_1 + 1)), (by first | rfl | (simp; done) | (simp [*]; done)), H', ⟨by have := HK1.out; omega⟩, ⟨by (with_reducible repeat (first | apply Kd.R_alloc | apply Kd.R_drewN | apply Kd.R_drew)); exact HO_11.out⟩, ⟨by repeat (first | (with_reducible first | exact HB.out | apply below_alloc | apply pw_below_drewN | apply below_drew1) | exact HB.out)⟩⟩
            · rw [if_neg c9] at H
              exact absurd H (by simp)
          · rw [if_neg c8] at H
            exact absurd H (by simp)
        · rw [if_neg c7] at H
          have c7b0 : decide (x13_1 < (y101.length : Int)) = false := decide_eq_false c7
          clear c7
          obtain rfl := Option.some.inj H
          go_wp2
          go_ret
          exact ⟨by first | rfl | (simp [errW_none, errW_some] <;> rfl) | (simp [*, errW_none, errW_some] <;> rfl), by repeat (first | (with_reducible first | exact HB.out | apply below_alloc | apply pw_below_drewN | apply below_drew1) | exact HB.out)⟩

-- NOT PRINTED: function 31 (arm64asm_handle_bitmasks)

-- NOT PRINTED: function 25 (arm64asm_ZZBitmask)

-- NOT PRINTED: function 18 (impl_Bitmask)

/-! ### spec_Bitmask: function 19 -/
mutual
def spec_Bitmask.l0 : Nat → Int → Int → Int → Int → List Int → Int → Int → Option (Int × Bool)
  | 0, _, _, _, _, _, _, _ => none
  | k + 1, x0, x1, x2, x8, x15, x16, x17 => if x17 < x16 then (if 0 ≤ x17 then (if x17 < (x15.length : Int) then (if x0 = 0 then (if (rd x15 x17) = 0 then (none) else (if (Int.tmod (wrap64 (Int.tdiv x2 (rd x15 x17))) 2) = 0 then (if x2 ≥ (wrap64 (64 - (wrap64 (2 * (rd x15 x17))))) then (spec_Bitmask.l0 k x0 x1 x2 (rd x15 x17) x15 x16 (wrap64 (x17 + 1))) else (spec_Bitmask.l0 k x0 x1 x2 x8 x15 x16 (wrap64 (x17 + 1)))) else (spec_Bitmask.l0 k x0 x1 x2 x8 x15 x16 (wrap64 (x17 + 1))))) else (spec_Bitmask.l0 k x0 x1 x2 x8 x15 x16 (wrap64 (x17 + 1)))) else (none)) else (none)) else (if x0 = 1 then (spec_Bitmask.j1 k x1 x2 64) else (spec_Bitmask.j1 k x1 x2 x8))
def spec_Bitmask.j1 : Nat → Int → Int → Int → Option (Int × Bool)
  | 0, _, _, _ => none
  | k + 1, x1, x2, x8 => if x8 = 0 then (some (0, false)) else (spec_Bitmask.l1 k x8 (wrap64 ((Int.tmod x2 x8) + 1)) (Int.tmod x1 x8) 0 0)
def spec_Bitmask.l1 : Nat → Int → Int → Int → Int → Int → Option (Int × Bool)
  | 0, _, _, _, _, _ => none
  | k + 1, x8, x11, x12, x13, x14 => if x14 < 64 then (if x8 = 0 then (none) else (if (Int.tmod (wrap64 ((Int.tmod x14 x8) + x12)) x8) < x11 then (if 0 ≤ x14 then (spec_Bitmask.l1 k x8 x11 x12 (IntKind.u64.wrap (x13 + (shl .u64 1 x14))) (wrap64 (x14 + 1))) else (none)) else (spec_Bitmask.l1 k x8 x11 x12 x13 (wrap64 (x14 + 1))))) else (some (x13, true))
end
def spec_Bitmask.f (k : Nat) (a0 : Int) (a1 : Int) (a2 : Int) : Option (Int × Bool) := (some (([2, 4, 8, 16, 32] : List Int) : List Int)).bind fun y105 => (spec_Bitmask.l0 k a0 a1 a2 0 y105 (y105.length : Int) 0)
theorem spec_Bitmask.mono_l : ∀ k, (∀ y0 y1 y2 y3 y4 y5 y6, LeO (spec_Bitmask.l0 k y0 y1 y2 y3 y4 y5 y6) (spec_Bitmask.l0 (k + 1) y0 y1 y2 y3 y4 y5 y6)) ∧ (∀ y0 y1 y2, LeO (spec_Bitmask.j1 k y0 y1 y2) (spec_Bitmask.j1 (k + 1) y0 y1 y2)) ∧ (∀ y0 y1 y2 y3 y4, LeO (spec_Bitmask.l1 k y0 y1 y2 y3 y4) (spec_Bitmask.l1 (k + 1) y0 y1 y2 y3 y4))
  | 0 => ⟨fun _ _ _ _ _ _ _ r h => by simp [spec_Bitmask.l0] at h, fun _ _ _ r h => by simp [spec_Bitmask.j1] at h, fun _ _ _ _ _ r h => by simp [spec_Bitmask.l1] at h⟩
  | k + 1 => by
    obtain ⟨ih0, ih1, ih2⟩ := spec_Bitmask.mono_l k
    refine ⟨?_, ?_, ?_⟩
    · intro y0 y1 y2 y3 y4 y5 y6
      unfold spec_Bitmask.l0
      repeat' first
      | (with_reducible exact ih0 _ _ _ _ _ _ _)
      | (with_reducible exact ih1 _ _ _)
      | (with_reducible exact ih2 _ _ _ _ _)
      | (with_reducible exact LeO.refl _)
      | (with_reducible exact LeO.none _)
      | (with_reducible refine LeO.ite ?_ ?_)
      | (with_reducible refine LeO.bind ?_ (fun _ => ?_))
      | exact ih0 _ _ _ _ _ _ _
      | exact ih1 _ _ _
      | exact ih2 _ _ _ _ _
      | exact LeO.none _
      | refine LeO.ite ?_ ?_
      | refine LeO.bind ?_ (fun _ => ?_)
    · intro y0 y1 y2
      unfold spec_Bitmask.j1
      repeat' first
      | (with_reducible exact ih0 _ _ _ _ _ _ _)
      | (with_reducible exact ih1 _ _ _)
      | (with_reducible exact ih2 _ _ _ _ _)
      | (with_reducible exact LeO.refl _)
      | (with_reducible exact LeO.none _)
      | (with_reducible refine LeO.ite ?_ ?_)
      | (with_reducible refine LeO.bind ?_ (fun _ => ?_))
      | exact ih0 _ _ _ _ _ _ _
      | exact ih1 _ _ _
      | exact ih2 _ _ _ _ _
      | exact LeO.none _
      | refine LeO.ite ?_ ?_
      | refine LeO.bind ?_ (fun _ => ?_)
    · intro y0 y1 y2 y3 y4
      unfold spec_Bitmask.l1
      repeat' first
      | (with_reducible exact ih0 _ _ _ _ _ _ _)
      | (with_reducible exact ih1 _ _ _)
      | (with_reducible exact ih2 _ _ _ _ _)
      | (with_reducible exact LeO.refl _)
      | (with_reducible exact LeO.none _)
      | (with_reducible refine LeO.ite ?_ ?_)
      | (with_reducible refine LeO.bind ?_ (fun _ => ?_))
      | exact ih0 _ _ _ _ _ _ _
      | exact ih1 _ _ _
      | exact ih2 _ _ _ _ _
      | exact LeO.none _
      | refine LeO.ite ?_ ?_
      | refine LeO.bind ?_ (fun _ => ?_)
theorem spec_Bitmask.mono : ∀ a0 a1 a2 k, LeO (spec_Bitmask.f k a0 a1 a2) (spec_Bitmask.f (k + 1) a0 a1 a2) := by
  intro a0 a1 a2 k
  obtain ⟨ih0, ih1, ih2⟩ := spec_Bitmask.mono_l k
  unfold spec_Bitmask.f
  repeat' first
      | (with_reducible exact ih0 _ _ _ _ _ _ _)
      | (with_reducible exact ih1 _ _ _)
      | (with_reducible exact ih2 _ _ _ _ _)
      | (with_reducible exact LeO.refl _)
      | (with_reducible exact LeO.none _)
      | (with_reducible refine LeO.ite ?_ ?_)
      | (with_reducible refine LeO.bind ?_ (fun _ => ?_))
      | exact ih0 _ _ _ _ _ _ _
      | exact ih1 _ _ _
      | exact ih2 _ _ _ _ _
      | exact LeO.none _
      | refine LeO.ite ?_ ?_
      | refine LeO.bind ?_ (fun _ => ?_)
set_option maxHeartbeats 8000000 in
set_option maxRecDepth 100000 in
theorem spec_Bitmask.calls (k : Nat) (a0 : Int) (a1 : Int) (a2 : Int) (r1 : Int) (r2 : Bool) (w : World) (h : spec_Bitmask.f k a0 a1 a2 = some (r1, r2)) :
    Calls Try.prog 19 #[.int .i64 a0, .int .i64 a1, .int .i64 a2] w fun e w' => e = .returned (.tuple #[.int .u64 r1, .bool r2]) ∧ Below w.heap.size w w' := by
  have HB := Aside0.mk (Below.refl w.heap.size w)
  have H : ((some (([2, 4, 8, 16, 32] : List Int) : List Int)).bind fun y105 => (spec_Bitmask.l0 k a0 a1 a2 0 y105 (y105.length : Int) 0)) = some (r1, r2) := h
  clear h
  obtain ⟨y105, hy105⟩ : ∃ y_ : List Int, y_ = (([2, 4, 8, 16, 32] : List Int)) := ⟨_, rfl⟩
  replace H : (spec_Bitmask.l0 k a0 a1 a2 0 y105 (y105.length : Int) 0) = some (r1, r2) := by first | (rw [hy105]; with_reducible exact H) | (have H2_ := (Option.bind_some _ _).symm.trans H; rw [hy105]; with_reducible exact H2_) | (have H2_ := (Option.bind_some _ _).symm.trans H; with_reducible exact H2_) | with_reducible exact H | (rw [hy105]; exact H) | exact H
  have Ny105 := Aside0.mk hy105
  clear hy105
  have H' := Aside0.mk H
  clear H
  go_enter Try.func19, Try.ntmps19
  go_wp2_with (first | ((with_reducible refine gate_dst (N := 15) rfl ?_); refine Kd.R_lit (Kd.int .i64) _ 3 ?hg (N := 15) ?hd (xs := ([2, 4, 8, 16, 32] : List Int)) (inner := [.int .i64 2, .int .i64 4, .int .i64 8, .int .i64 16, .int .i64 32]) (ok := fun _ => True) (okp := fun _ => True) ?hr ?hp (fun _ hk => hk) trivial (Below.refl _ _) (Nat.le_refl _) (by simp) ?_; (case hd => rfl); (case hg => rfl); (case hr => first | (go_simp; done) | (go_simp; rfl)); (case hp => exact (Reps.one (show Kd.M (Kd.int .i64) _ _ _ 2 [.int .i64 2] from rfl) (Reps.one (show Kd.M (Kd.int .i64) _ _ _ 4 [.int .i64 4] from rfl) (Reps.one (show Kd.M (Kd.int .i64) _ _ _ 8 [.int .i64 8] from rfl) (Reps.one (show Kd.M (Kd.int .i64) _ _ _ 16 [.int .i64 16] from rfl) (Reps.one (show Kd.M (Kd.int .i64) _ _ _ 32 [.int .i64 32] from rfl) (Reps.none _ _))))))); intro v106 w4 ho5 hb hg_ hnew_; clear hg_ hnew_; (first | rw [← Ny105.out] at ho5 | (simp only [Int.reduceToNat] at ho5; rw [← Ny105.out] at ho5)); have n0_ := Aside0.mk (Kd.R_lower ho5 (below_size (by repeat (first | (with_reducible first | exact HB.out | apply below_alloc | apply pw_below_drewN | apply below_drew1) | exact HB.out)))); have n1_ := Aside0.mk (below_step (by repeat (first | (with_reducible first | exact HB.out | apply below_alloc | apply pw_below_drewN | apply below_drew1) | exact HB.out)) hb); clear HB; have HO107 := n0_; have HB := n1_; clear n0_ n1_; clear hb ho5; obtain ⟨Ao6, co6, eo6⟩ := Kd.R_slice HO107.out; subst eo6))
  repeat (go_quiet (first | ((with_reducible refine gate_dst (N := 15) rfl ?_); refine Kd.R_lit (Kd.int .i64) _ 3 ?hg (N := 15) ?hd (xs := ([2, 4, 8, 16, 32] : List Int)) (inner := [.int .i64 2, .int .i64 4, .int .i64 8, .int .i64 16, .int .i64 32]) (ok := fun _ => True) (okp := fun _ => True) ?hr ?hp (fun _ hk => hk) trivial (Below.refl _ _) (Nat.le_refl _) (by simp) ?_; (case hd => rfl); (case hg => rfl); (case hr => first | (go_simp; done) | (go_simp; rfl)); (case hp => exact (Reps.one (show Kd.M (Kd.int .i64) _ _ _ 2 [.int .i64 2] from rfl) (Reps.one (show Kd.M (Kd.int .i64) _ _ _ 4 [.int .i64 4] from rfl) (Reps.one (show Kd.M (Kd.int .i64) _ _ _ 8 [.int .i64 8] from rfl) (Reps.one (show Kd.M (Kd.int .i64) _ _ _ 16 [.int .i64 16] from rfl) (Reps.one (show Kd.M (Kd.int .i64) _ _ _ 32 [.int .i64 32] from rfl) (Reps.none _ _))))))); intro v106 w4 ho5 hb hg_ hnew_; clear hg_ hnew_; (first | rw [← Ny105.out] at ho5 | (simp only [Int.reduceToNat] at ho5; rw [← Ny105.out] at ho5)); have n0_ := Aside0.mk (Kd.R_lower ho5 (below_size (by repeat (first | (with_reducible first | exact HB.out | apply below_alloc | apply pw_below_drewN | apply below_drew1) | exact HB.out)))); have n1_ := Aside0.mk (below_step (by repeat (first | (with_reducible first | exact HB.out | apply below_alloc | apply pw_below_drewN | apply below_drew1) | exact HB.out)) hb); clear HB; have HO107 := n0_; have HB := n1_; clear n0_ n1_; clear hb ho5; obtain ⟨Ao6, co6, eo6⟩ := Kd.R_slice HO107.out; subst eo6)); try go_wp2_with (first | ((with_reducible refine gate_dst (N := 15) rfl ?_); refine Kd.R_lit (Kd.int .i64) _ 3 ?hg (N := 15) ?hd (xs := ([2, 4, 8, 16, 32] : List Int)) (inner := [.int .i64 2, .int .i64 4, .int .i64 8, .int .i64 16, .int .i64 32]) (ok := fun _ => True) (okp := fun _ => True) ?hr ?hp (fun _ hk => hk) trivial (Below.refl _ _) (Nat.le_refl _) (by simp) ?_; (case hd => rfl); (case hg => rfl); (case hr => first | (go_simp; done) | (go_simp; rfl)); (case hp => exact (Reps.one (show Kd.M (Kd.int .i64) _ _ _ 2 [.int .i64 2] from rfl) (Reps.one (show Kd.M (Kd.int .i64) _ _ _ 4 [.int .i64 4] from rfl) (Reps.one (show Kd.M (Kd.int .i64) _ _ _ 8 [.int .i64 8] from rfl) (Reps.one (show Kd.M (Kd.int .i64) _ _ _ 16 [.int .i64 16] from rfl) (Reps.one (show Kd.M (Kd.int .i64) _ _ _ 32 [.int .i64 32] from rfl) (Reps.none _ _))))))); intro v106 w4 ho5 hb hg_ hnew_; clear hg_ hnew_; (first | rw [← Ny105.out] at ho5 | (simp only [Int.reduceToNat] at ho5; rw [← Ny105.out] at ho5)); have n0_ := Aside0.mk (Kd.R_lower ho5 (below_size (by repeat (first | (with_reducible first | exact HB.out | apply below_alloc | apply pw_below_drewN | apply below_drew1) | exact HB.out)))); have n1_ := Aside0.mk (below_step (by repeat (first | (with_reducible first | exact HB.out | apply below_alloc | apply pw_below_drewN | apply below_drew1) | exact HB.out)) hb); clear HB; have HO107 := n0_; have HB := n1_; clear n0_ n1_; clear hb ho5; obtain ⟨Ao6, co6, eo6⟩ := Kd.R_slice HO107.out; subst eo6)))
  go_loopg [8, 17] k (fun kq v8 v17 w' => ∃ (x8_1 : Int) (x17_1 : Int), v8 = .int .i64 x8_1 ∧ v17 = .int .i64 x17_1 ∧ Aside0 (spec_Bitmask.l0 kq a0 a1 a2 x8_1 y105 (y105.length : Int) x17_1 = some (r1, r2)) ∧ Aside0 (kq ≤ k) ∧ Aside0 (Kd.R (Kd.int .i64) 3 w' w.heap.size (fun _ => True) (.slice Ao6 y105.length co6) y105) ∧ Aside0 (Below w.heap.size w w'))
  case atStart => exact ⟨(0), (0), (by first | rfl | (simp; done) | (simp [*]; done)), (by first | rfl | (simp; done) | (simp [*]; done)), H', ⟨Nat.le_refl _⟩, ⟨by (with_reducible repeat (first | apply Kd.R_alloc | apply Kd.R_drewN | apply Kd.R_drew)); exact HO107.out⟩, ⟨by repeat (first | (with_reducible first | exact HB.out | apply below_alloc | apply pw_below_drewN | apply below_drew1) | exact HB.out)⟩⟩
  case round =>
    clear H'
    try clear c1
    try clear p2
    obtain ⟨x8_1, x17_1, rfl, rfl, HA, HK1, HO_15, HB⟩ := hrel
    cases gk with
    | zero => exact absurd HA.out (by simp [spec_Bitmask.l0])
    | succ k1 =>
      have H := HA.out
      clear HA
      simp only [spec_Bitmask.l0] at H
      by_cases c7 : x17_1 < (y105.length : Int)
      · rw [if_pos c7] at H
        have c7b0 : decide (x17_1 < (y105.length : Int)) = true := decide_eq_true c7
        clear c7
        by_cases c8 : 0 ≤ x17_1
        · rw [if_pos c8] at H
          have c8b0 : decide (0 ≤ x17_1) = true := decide_eq_true c8
          clear c8
          by_cases c9 : x17_1 < (y105.length : Int)
          · rw [if_pos c9] at H
            have c9b0 : decide (x17_1 < (y105.length : Int)) = true := decide_eq_true c9
            clear c9
            by_cases c10 : a0 = 0
            · rw [if_pos c10] at H
              have c10b0 : (a0 == 0) = true := beq_iff_eq.mpr c10
              have c10b1 : (a0 != 0) = false := bne_eq_false_iff_eq.mpr c10
              clear c10
              by_cases c11 : (rd y105 x17_1) = 0
              · rw [if_pos c11] at H
                exact absurd H (by simp)
              · rw [if_neg c11] at H
                have c11b0 : ((rd y105 x17_1) == 0) = false := beq_eq_false_iff_ne.mpr c11
                have c11b1 : ((rd y105 x17_1) != 0) = true := bne_iff_ne.mpr c11
                by_cases c12 : (Int.tmod (wrap64 (Int.tdiv a2 (rd y105 x17_1))) 2) = 0
                · rw [if_pos c12] at H
                  have c12b0 : ((Int.tmod (wrap64 (Int.tdiv a2 (rd y105 x17_1))) 2) == 0) = true := beq_iff_eq.mpr c12
                  have c12b1 : ((Int.tmod (wrap64 (Int.tdiv a2 (rd y105 x17_1))) 2) != 0) = false := bne_eq_false_iff_eq.mpr c12
                  clear c12
                  by_cases c13 : a2 ≥ (wrap64 (64 - (wrap64 (2 * (rd y105 x17_1)))))
                  · rw [if_pos c13] at H
                    have c13b0 : decide ((wrap64 (64 - (wrap64 (2 * (rd y105 x17_1))))) ≤ a2) = true := decide_eq_true c13
                    clear c13
                    have H' := Aside0.mk H
                    clear H
                    have p108 : 0 ≤ (x17_1 : Int) := of_decide_eq_true (by first | (with_reducible assumption) | assumption)
                    have q108 : x17_1 < (y105.length : Int) := of_decide_eq_true (by first | (with_reducible assumption) | assumption)
                    obtain ⟨ad108, e108, hx108_0⟩ := Kd.at_int (Kd.R_reads' HO_15.out).2.2 x17_1 p108 q108
                    cases e108
                    replace p108 := eq_true p108
                    replace q108 := eq_true q108
                    go_wp2
                    repeat (go_quiet (fail); try go_wp2)
                    go_roundg k1
                    case measure => have := HK1.out; omega
                    case rel => exact ⟨(rd y105 x17_1), (wrap64 (x17_1 + 1)), (by first | rfl | (simp; done) | (simp [*]; done)), (by first | rfl | (simp; done) | (simp [*]; done)), H', ⟨by have := HK1.out; omega⟩, ⟨by (with_reducible repeat (first | apply Kd.R_alloc | apply Kd.R_drewN | apply Kd.R_drew)); exact HO_15.out⟩, ⟨by repeat (first | (with_reducible first | exact HB.out | apply below_alloc | apply pw_below_drewN | apply below_drew1) | exact HB.out)⟩⟩
                  · rw [if_neg c13] at H
                    have c13b0 : decide ((wrap64 (64 - (wrap64 (2 * (rd y105 x17_1))))) ≤ a2) = false := decide_eq_false c13
                    clear c13
                    have H' := Aside0.mk H
                    clear H
                    have p108 : 0 ≤ (x17_1 : Int) := of_decide_eq_true (by first | (with_reducible assumption) | assumption)
                    have q108 : x17_1 < (y105.length : Int) := of_decide_eq_true (by first | (with_reducible assumption) | assumption)
                    obtain ⟨ad108, e108, hx108_0⟩ := Kd.at_int (Kd.R_reads' HO_15.out).2.2 x17_1 p108 q108
                    cases e108
                    replace p108 := eq_true p108
                    replace q108 := eq_true q108
                    go_wp2
                    repeat (go_quiet (fail); try go_wp2)
                    go_roundg k1
                    case measure => have := HK1.out; omega
                    case rel => exact ⟨(x8_1), (wrap64 (x17_1 + 1)), (by first | rfl | (simp; done) | (simp [*]; done)), (by first | rfl | (simp; done) | (simp [*]; done)), H', ⟨by have := HK1.out; omega⟩, ⟨by (with_reducible repeat (first | apply Kd.R_alloc | apply Kd.R_drewN | apply Kd.R_drew)); exact HO_15.out⟩, ⟨by repeat (first | (with_reducible first | exact HB.out | apply below_alloc | apply pw_below_drewN | apply below_drew1) | exact HB.out)⟩⟩
                · rw [if_neg c12] at H
                  have c12b0 : ((Int.tmod (wrap64 (Int.tdiv a2 (rd y105 x17_1))) 2) == 0) = false := beq_eq_false_iff_ne.mpr c12
                  have c12b1 : ((Int.tmod (wrap64 (Int.tdiv a2 (rd y105 x17_1))) 2) != 0) = true := bne_iff_ne.mpr c12
                  have H' := Aside0.mk H
                  clear H
                  have p108 : 0 ≤ (x17_1 : Int) := of_decide_eq_true (by first | (with_reducible assumption) | assumption)
                  have q108 : x17_1 < (y105.length : Int) := of_decide_eq_true (by first | (with_reducible assumption) | assumption)
                  obtain ⟨ad108, e108, hx108_0⟩ := Kd.at_int (Kd.R_reads' HO_15.out).2.2 x17_1 p108 q108
                  cases e108
                  replace p108 := eq_true p108
                  replace q108 := eq_true q108
                  go_wp2
                  repeat (go_quiet (fail); try go_wp2)
                  go_roundg k1
                  case measure => have := HK1.out; omega
                  case rel => exact ⟨(x8_1), (wrap64 (x17_1 + 1)), (by first | rfl | (simp; done) | (simp [*]; done)), (by first | rfl | (simp; done) | (simp [*]; done)), H', ⟨by have := HK1.out; omega⟩, ⟨by (with_reducible repeat (first | apply Kd.R_alloc | apply Kd.R_drewN | apply Kd.R_drew)); exact HO_15.out⟩, ⟨by repeat (first | (with_reducible first | exact HB.out | apply below_alloc | apply pw_below_drewN | apply below_drew1) | exact HB.out)⟩⟩
            · rw [if_neg c10] at H
              have c10b0 : (a0 == 0) = false := beq_eq_false_iff_ne.mpr c10
              have c10b1 : (a0 != 0) = true := bne_iff_ne.mpr c10
              have H' := Aside0.mk H
              clear H
              have p108 : 0 ≤ (x17_1 : Int) := of_decide_eq_true (by first | (with_reducible assumption) | assumption)
              have q108 : x17_1 < (y105.length : Int) := of_decide_eq_true (by first | (with_reducible assumption) | assumption)
              obtain ⟨ad108, e108, hx108_0⟩ := Kd.at_int (Kd.R_reads' HO_15.out).2.2 x17_1 p108 q108
              cases e108
              replace p108 := eq_true p108
              replace q108 := eq_true q108
              go_wp2
              repeat (go_quiet (fail); try go_wp2)
              go_roundg k1
              case measure => have := HK1.out; omega
              case rel => exact ⟨(x8_1), (wrap64 (x17_1 + 1)), (by first | rfl | (simp; done) | (simp [*]; done)), (by first | rfl | (simp; done) | (simp [*]; done)), H', ⟨by have := HK1.out; omega⟩, ⟨by (with_reducible repeat (first | apply Kd.R_alloc | apply Kd.R_drewN | apply Kd.R_drew)); exact HO_15.out⟩, ⟨by repeat (first | (with_reducible first | exact HB.out | apply below_alloc | apply pw_below_drewN | apply below_drew1) | exact HB.out)⟩⟩
          · rw [if_neg c9] at H
            exact absurd H (by simp)
        · rw [if_neg c8] at H
          exact absurd H (by simp)
      · rw [if_neg c7] at H
        have c7b0 : decide (x17_1 < (y105.length : Int)) = false := decide_eq_false c7
        clear c7
        have HC14 := Aside0.mk H
        clear H
        go_upto_if 40 with (fail)
        repeat (go_quiet (fail); go_upto_if 40 with (fail))
        go_cut [8] (fun v8 wc => ∃ (kq : Nat) (x8_13 : Int), v8 = .int .i64 x8_13 ∧ Aside0 (spec_Bitmask.j1 kq a1 a2 x8_13 = some (r1, r2)) ∧ Aside0 (kq ≤ k1) ∧ Aside0 (Below w.heap.size w wc))
        case first =>
          have H := HC14.out
          clear HC14
          by_cases c15 : a0 = 1
          · rw [if_pos c15] at H
            have c15b0 : (a0 == 1) = true := beq_iff_eq.mpr c15
            have c15b1 : (a0 != 1) = false := bne_eq_false_iff_eq.mpr c15
            clear c15
            (first | rw [c15b0] | (simp only [i64_w, i32_w]; rw [c15b0]) | skip)
            have H' := Aside0.mk H
            clear H
            go_wp2
            repeat (go_quiet (fail); try go_wp2)
            go_meet
            case rel => exact ⟨_, (64), (by first | rfl | (simp; done) | (simp [*]; done)), H', ⟨by have := HK1.out; first | omega | exact Nat.le_refl _⟩, ⟨by repeat (first | (with_reducible first | exact HB.out | apply below_alloc | apply pw_below_drewN | apply below_drew1) | exact HB.out)⟩⟩
          · rw [if_neg c15] at H
            have c15b0 : (a0 == 1) = false := beq_eq_false_iff_ne.mpr c15
            have c15b1 : (a0 != 1) = true := bne_iff_ne.mpr c15
            (first | rw [c15b0] | (simp only [i64_w, i32_w]; rw [c15b0]) | skip)
            have H' := Aside0.mk H
            clear H
            go_wp2
            repeat (go_quiet (fail); try go_wp2)
            go_meet
            case rel => exact ⟨_, (x8_1), (by first | rfl | (simp; done) | (simp [*]; done)), H', ⟨by have := HK1.out; first | omega | exact Nat.le_refl _⟩, ⟨by repeat (first | (with_reducible first | exact HB.out | apply below_alloc | apply pw_below_drewN | apply below_drew1) | exact HB.out)⟩⟩
        case rest =>
          clear HC14
          try clear c1
          try clear p1
          try clear q1
          try clear hx1
          try clear p2
          try clear p6
          try clear c7
          try clear c7b0
          try clear c8
          try clear c8b0
          try clear c9
          try clear c9b0
          try clear c10
          try clear c10b0
          try clear c10b1
          try clear p10
          try clear q10
          try clear hx10
          try clear c11
          try clear c11b0
          try clear c11b1
          try clear c12
          try clear c12b0
          try clear c12b1
          try clear c13
          try clear c13b0
          try clear c15
          try clear c15b0
          try clear c15b1
          try clear hx108_0
          try clear p108
          try clear p2
          try clear q108
          obtain ⟨kq, x8_13, rfl, HA, HJ13, HB⟩ := hcut
          cases kq with
          | zero => exact absurd HA.out (by simp [spec_Bitmask.j1])
          | succ kj13 =>
            have H := HA.out
            clear HA
            simp only [spec_Bitmask.j1] at H
            by_cases c16 : x8_13 = 0
            · rw [if_pos c16] at H
              have c16b0 : (x8_13 == 0) = true := beq_iff_eq.mpr c16
              have c16b1 : (x8_13 != 0) = false := bne_eq_false_iff_eq.mpr c16
              clear c16
              simp only [Option.some.injEq, Prod.mk.injEq] at H
              obtain ⟨rfl, rfl⟩ := H
              go_wp2
              repeat (go_quiet (fail); try go_wp2)
              go_ret2
              exact ⟨by first | rfl | (simp [errW_none, errW_some] <;> rfl) | (simp [*, errW_none, errW_some] <;> rfl), by repeat (first | (with_reducible first | exact HB.out | apply below_alloc | apply pw_below_drewN | apply below_drew1) | exact HB.out)⟩
            · rw [if_neg c16] at H
              have c16b0 : (x8_13 == 0) = false := beq_eq_false_iff_ne.mpr c16
              have c16b1 : (x8_13 != 0) = true := bne_iff_ne.mpr c16
              have H' := Aside0.mk H
              clear H
              go_wp2
              repeat (go_quiet (fail); try go_wp2)
              go_loopg [13, 14] kj13 (fun kq v13 v14 w' => ∃ (x13_3 : Int) (x14_3 : Int), v13 = .int .u64 x13_3 ∧ v14 = .int .i64 x14_3 ∧ Aside0 (spec_Bitmask.l1 kq x8_13 (wrap64 ((Int.tmod a2 x8_13) + 1)) (Int.tmod a1 x8_13) x13_3 x14_3 = some (r1, r2)) ∧ Aside0 (kq ≤ kj13) ∧ Aside0 (Below w.heap.size w w'))
              case atStart => exact ⟨(0), (0), (by first | rfl | (simp; done) | (simp [*]; done)), (by first | rfl | (simp; done) | (simp [*]; done)), H', ⟨Nat.le_refl _⟩, ⟨by repeat (first | (with_reducible first | exact HB.out | apply below_alloc | apply pw_below_drewN | apply below_drew1) | exact HB.out)⟩⟩
              case round =>
                clear H'
                try clear c1
                try clear p1
                try clear q1
                try clear hx1
                try clear p2
                try clear p6
                try clear c7
                try clear c7b0
                try clear c8
                try clear c8b0
                try clear c9
                try clear c9b0
                try clear c10
                try clear c10b0
                try clear c10b1
                try clear p10
                try clear q10
                try clear hx10
                try clear c11
                try clear c11b0
                try clear c11b1
                try clear c12
                try clear c12b0
                try clear c12b1
                try clear c13
                try clear c13b0
                try clear c15
                try clear c15b0
                try clear c15b1
                try clear c16
                try clear c16b0
                try clear c16b1
                try clear hx108_0
                try clear p1
                try clear p10
                try clear p108
                try clear p2
                try clear p6
                try clear q1
                try clear q10
                try clear q108
                obtain ⟨x13_3, x14_3, rfl, rfl, HA, HK3, HB⟩ := hrel
                cases gk with
                | zero => exact absurd HA.out (by simp [spec_Bitmask.l1])
                | succ k3 =>
                  have H := HA.out
                  clear HA
                  simp only [spec_Bitmask.l1] at H
                  by_cases c17 : x14_3 < 64
                  · rw [if_pos c17] at H
                    have c17b0 : decide (x14_3 < 64) = true := decide_eq_true c17
                    clear c17
                    by_cases c18 : x8_13 = 0
                    · rw [if_pos c18] at H
                      exact absurd H (by simp)
                    · rw [if_neg c18] at H
                      have c18b0 : (x8_13 == 0) = false := beq_eq_false_iff_ne.mpr c18
                      have c18b1 : (x8_13 != 0) = true := bne_iff_ne.mpr c18
                      by_cases c19 : (Int.tmod (wrap64 ((Int.tmod x14_3 x8_13) + (Int.tmod a1 x8_13))) x8_13) < (wrap64 ((Int.tmod a2 x8_13) + 1))
                      · rw [if_pos c19] at H
                        have c19b0 : decide ((Int.tmod (wrap64 ((Int.tmod x14_3 x8_13) + (Int.tmod a1 x8_13))) x8_13) < (wrap64 ((Int.tmod a2 x8_13) + 1))) = true := decide_eq_true c19
                        clear c19
                        by_cases c20 : 0 ≤ x14_3
                        · rw [if_pos c20] at H
                          have c20b0 := eq_true c20
                          have c20b1 : decide (0 ≤ x14_3) = true := decide_eq_true c20
                          clear c20
                          obtain ⟨ji21, hji21⟩ : ∃ j_ : Int, (shl .u64 1 x14_3) = j_ := ⟨_, rfl⟩
                          replace H : (spec_Bitmask.l1 k3 x8_13 (wrap64 ((Int.tmod a2 x8_13) + 1)) (Int.tmod a1 x8_13) (IntKind.u64.wrap (x13_3 + (ji21))) (wrap64 (x14_3 + 1))) = some (r1, r2) := by first | (rw [hji21] at H; exact H) | (simp only [hji21] at H ⊢; exact H)
                          have hji21_ : (IntKind.u64.wrap (1 * 2 ^ min x14_3.toNat 64)) = ji21 := hji21
                          have hji21z : x14_3 ≤ 64 → (IntKind.u64.wrap (1 * 2 ^ x14_3.toNat)) = ji21 := shl_small hji21
                          have hji21u : (IntKind.u64.wrap (2 ^ min x14_3.toNat 64)) = ji21 := by have h_ := hji21_; rw [Int.one_mul] at h_; exact h_
                          have hji21v : x14_3 ≤ 64 → (IntKind.u64.wrap (2 ^ x14_3.toNat)) = ji21 := fun hle_ => by have h_ := hji21z hle_; rw [Int.one_mul] at h_; exact h_
                          have H' := Aside0.mk H
                          clear H
                          go_wp2
                          repeat (go_quiet (fail); try go_wp2)
                          go_roundg k3
                          case measure => have := HK1.out; have := HJ13.out; have := HK3.out; omega
                          case rel => exact ⟨(IntKind.u64.wrap (x13_3 + (ji21))), (wrap64 (x14_3 + 1)), (by first | rfl | (simp; done) | (simp only [← hji21] <;> (first | rfl | simp)) | (simp [*]; done)), (by first | rfl | (simp; done) | (simp [*]; done)), H', ⟨by have := HK1.out; have := HJ13.out; have := HK3.out; omega⟩, ⟨by repeat (first | (with_reducible first | exact HB.out | apply below_alloc | apply pw_below_drewN | apply below_drew1) | exact HB.out)⟩⟩
                        · rw [if_neg c20] at H
                          exact absurd H (by simp)
                      · rw [if_neg c19] at H
                        have c19b0 : decide ((Int.tmod (wrap64 ((Int.tmod x14_3 x8_13) + (Int.tmod a1 x8_13))) x8_13) < (wrap64 ((Int.tmod a2 x8_13) + 1))) = false := decide_eq_false c19
                        clear c19
                        have H' := Aside0.mk H
                        clear H
                        go_wp2
                        repeat (go_quiet (fail); try go_wp2)
                        go_roundg k3
                        case measure => have := HK1.out; have := HJ13.out; have := HK3.out; omega
                        case rel => exact ⟨(x13_3), (wrap64 (x14_3 + 1)), (by first | rfl | (simp; done) | (simp [*]; done)), (by first | rfl | (simp; done) | (simp [*]; done)), H', ⟨by have := HK1.out; have := HJ13.out; have := HK3.out; omega⟩, ⟨by repeat (first | (with_reducible first | exact HB.out | apply below_alloc | apply pw_below_drewN | apply below_drew1) | exact HB.out)⟩⟩
                  · rw [if_neg c17] at H
                    have c17b0 : decide (x14_3 < 64) = false := decide_eq_false c17
                    clear c17
                    simp only [Option.some.injEq, Prod.mk.injEq] at H
                    obtain ⟨rfl, rfl⟩ := H
                    go_wp2
                    repeat (go_quiet (fail); try go_wp2)
                    go_ret2
                    exact ⟨by first | rfl | (simp [errW_none, errW_some] <;> rfl) | (simp [*, errW_none, errW_some] <;> rfl), by repeat (first | (with_reducible first | exact HB.out | apply below_alloc | apply pw_below_drewN | apply below_drew1) | exact HB.out)⟩

-- NOT PRINTED: function 7 (laws_FnBitmask)

end Go.Proofs.Ythcboddeannjcaa.PFnBitmask
