-- PRINTED BY print.sh 35421559b90ae4d0a3588c463048766b98c2df88dd9212a6774a882060cdf62d: not written by this session
import Derived.Test.YthcboddeannjcaaPFnCondTextx0
namespace Go.Proofs.Ythcboddeannjcaa.PFnCondText
open Go.RowKit Go.Proofs.YthcboddeannjcaaW.PrintWords Go.Proofs.YthcboddeannjcaaW.PrintLast Go.Proofs.YthcboddeannjcaaW.PrintMore
attribute [local go_sem] max2_int min2_int max_two min_two max_three min_three max_four min_four   -- for this text's walks alone
set_option linter.unusedVariables false
set_option linter.unusedSimpArgs false

/-! ### arm64asm_Cond_String: function 26 -/
def arm64asm_Cond_String.f (a0_0 : Int) (a0_1 : Bool) : Option (ByteArray) := if (a0_0 / 2) = 0 then (if (((Go.bits .and .u8 a0_0 1) == 1) != a0_1) = true then (some (⟨#[78, 69]⟩ : ByteArray)) else (some (⟨#[69, 81]⟩ : ByteArray))) else (if (a0_0 / 2) = 1 then (if (((Go.bits .and .u8 a0_0 1) == 1) != a0_1) = true then (some (⟨#[67, 67]⟩ : ByteArray)) else (some (⟨#[67, 83]⟩ : ByteArray))) else (if (a0_0 / 2) = 2 then (if (((Go.bits .and .u8 a0_0 1) == 1) != a0_1) = true then (some (⟨#[80, 76]⟩ : ByteArray)) else (some (⟨#[77, 73]⟩ : ByteArray))) else (if (a0_0 / 2) = 3 then (if (((Go.bits .and .u8 a0_0 1) == 1) != a0_1) = true then (some (⟨#[86, 67]⟩ : ByteArray)) else (some (⟨#[86, 83]⟩ : ByteArray))) else (if (a0_0 / 2) = 4 then (if (((Go.bits .and .u8 a0_0 1) == 1) != a0_1) = true then (some (⟨#[76, 83]⟩ : ByteArray)) else (some (⟨#[72, 73]⟩ : ByteArray))) else (if (a0_0 / 2) = 5 then (if (((Go.bits .and .u8 a0_0 1) == 1) != a0_1) = true then (some (⟨#[76, 84]⟩ : ByteArray)) else (some (⟨#[71, 69]⟩ : ByteArray))) else (if (a0_0 / 2) = 6 then (if (((Go.bits .and .u8 a0_0 1) == 1) != a0_1) = true then (some (⟨#[76, 69]⟩ : ByteArray)) else (some (⟨#[71, 84]⟩ : ByteArray))) else (if (a0_0 / 2) = 7 then (some (⟨#[65, 76]⟩ : ByteArray)) else (some (⟨#[]⟩ : ByteArray)))))))))
set_option maxHeartbeats 8000000 in
set_option maxRecDepth 100000 in
theorem arm64asm_Cond_String.calls (a0_0 : Int) (a0_1 : Bool) (r : ByteArray) (w : World) (h : arm64asm_Cond_String.f a0_0 a0_1 = some r) :
    Calls Try.prog 26 #[.agg #[.int .u8 a0_0, .bool a0_1]] w fun e w' => e = .returned (.string r) ∧ Below w.heap.size w w' := by
  have hu44 := Try.underlying44
  have HB := Aside0.mk (Below.refl w.heap.size w)
  have H : (if (a0_0 / 2) = 0 then (if (((Go.bits .and .u8 a0_0 1) == 1) != a0_1) = true then (some (⟨#[78, 69]⟩ : ByteArray)) else (some (⟨#[69, 81]⟩ : ByteArray))) else (if (a0_0 / 2) = 1 then (if (((Go.bits .and .u8 a0_0 1) == 1) != a0_1) = true then (some (⟨#[67, 67]⟩ : ByteArray)) else (some (⟨#[67, 83]⟩ : ByteArray))) else (if (a0_0 / 2) = 2 then (if (((Go.bits .and .u8 a0_0 1) == 1) != a0_1) = true then (some (⟨#[80, 76]⟩ : ByteArray)) else (some (⟨#[77, 73]⟩ : ByteArray))) else (if (a0_0 / 2) = 3 then (if (((Go.bits .and .u8 a0_0 1) == 1) != a0_1) = true then (some (⟨#[86, 67]⟩ : ByteArray)) else (some (⟨#[86, 83]⟩ : ByteArray))) else (if (a0_0 / 2) = 4 then (if (((Go.bits .and .u8 a0_0 1) == 1) != a0_1) = true then (some (⟨#[76, 83]⟩ : ByteArray)) else (some (⟨#[72, 73]⟩ : ByteArray))) else (if (a0_0 / 2) = 5 then (if (((Go.bits .and .u8 a0_0 1) == 1) != a0_1) = true then (some (⟨#[76, 84]⟩ : ByteArray)) else (some (⟨#[71, 69]⟩ : ByteArray))) else (if (a0_0 / 2) = 6 then (if (((Go.bits .and .u8 a0_0 1) == 1) != a0_1) = true then (some (⟨#[76, 69]⟩ : ByteArray)) else (some (⟨#[71, 84]⟩ : ByteArray))) else (if (a0_0 / 2) = 7 then (some (⟨#[65, 76]⟩ : ByteArray)) else (some (⟨#[]⟩ : ByteArray)))))))))) = some r := h
  clear h
  by_cases c2 : (a0_0 / 2) = 0
  · rw [if_pos c2] at H
    have c2b0 : ((a0_0 / 2) == 0) = true := beq_iff_eq.mpr c2
    have c2b1 : ((a0_0 / 2) != 0) = false := bne_eq_false_iff_eq.mpr c2
    clear c2
    by_cases c3 : (((Go.bits .and .u8 a0_0 1) == 1) != a0_1) = true
    · rw [if_pos c3] at H
      have c3b0 : (((Go.bits .and .u8 a0_0 1) == 1) != a0_1) = true := c3
      (try (have c3b1 : decide (((Go.bits .and .u8 a0_0 1) == 1) = a0_1) = false := by simpa using c3))
      (try (have c3b2 : (((Go.bits .and .u8 a0_0 1) == 1) == a0_1) = false := by simpa using c3))
      (try (have c3b3 : ¬ (((Go.bits .and .u8 a0_0 1) == 1) = a0_1) := by simpa using c3))
      clear c3
      obtain rfl := Option.some.inj H
      go_enter Try.func26, Try.ntmps26
      go_wp2_with (first | ((with_reducible refine gate_dst (N := 1) rfl ?_); refine box_event ?hg (N := 1) ?hd (cs := #[.int .u8 a0_0, .bool a0_1]) (t := 44) ?hr ?_; (case hd => rfl); (case hg => rfl); (case hr => first | (go_simp; done) | (go_simp; rfl)); intro gb101 hg w4 hbox hb; have n0_ := Aside0.mk (below_step (by repeat (first | (with_reducible first | exact HB.out | apply below_alloc | apply pw_below_drewN | apply below_drew1) | exact HB.out)) hb); have n1_ := Aside0.mk (hbox); have n2_ := Aside0.mk ((by rw [hg]; exact (below_size (by repeat (first | (with_reducible first | exact HB.out | apply below_alloc | apply pw_below_drewN | apply below_drew1) | exact HB.out))) : w.heap.size ≤ gb101)); have n3_ := Aside0.mk ((by rw [hg]; exact (below_size (by repeat (first | (with_reducible first | exact HB.out | apply below_alloc | apply pw_below_drewN | apply below_drew1) | exact HB.out))) : w.heap.size ≤ gb101)); clear HB; have HB := n0_; have BK101 := n1_; have GW101 := n2_; have GE101 := n3_; clear n0_ n1_ n2_ n3_; clear hb hbox hg; have hcz5_0 : w4.cell? ⟨gb101, 0, none⟩ = some (.int .u8 a0_0) := (blk_cell BK101.out 0).trans rfl; have hcz5_1 : w4.cell? ⟨gb101, 1, none⟩ = some (.bool a0_1) := (blk_cell BK101.out 1).trans rfl; have hfz5_0 := blk_frozen BK101.out 0; have hfz5_1 := blk_frozen BK101.out 1))
      go_ret
      exact ⟨by first | rfl | (simp [errW_none, errW_some] <;> rfl) | (simp [*, errW_none, errW_some] <;> rfl), by repeat (first | (with_reducible first | exact HB.out | apply below_alloc | apply pw_below_drewN | apply below_drew1 | refine below_set ?_ GE101.out) | exact HB.out)⟩
    · rw [if_neg c3] at H
      have c3b0 : (((Go.bits .and .u8 a0_0 1) == 1) != a0_1) = false := by simpa using c3
      (try (have c3b1 : decide (((Go.bits .and .u8 a0_0 1) == 1) = a0_1) = true := by simpa using c3))
      (try (have c3b2 : (((Go.bits .and .u8 a0_0 1) == 1) == a0_1) = true := by simpa using c3))
      clear c3
      obtain rfl := Option.some.inj H
      go_enter Try.func26, Try.ntmps26
      go_wp2_with (first | ((with_reducible refine gate_dst (N := 1) rfl ?_); refine box_event ?hg (N := 1) ?hd (cs := #[.int .u8 a0_0, .bool a0_1]) (t := 44) ?hr ?_; (case hd => rfl); (case hg => rfl); (case hr => first | (go_simp; done) | (go_simp; rfl)); intro gb101 hg w6 hbox hb; have n0_ := Aside0.mk (below_step (by repeat (first | (with_reducible first | exact HB.out | apply below_alloc | apply pw_below_drewN | apply below_drew1) | exact HB.out)) hb); have n1_ := Aside0.mk (hbox); have n2_ := Aside0.mk ((by rw [hg]; exact (below_size (by repeat (first | (with_reducible first | exact HB.out | apply below_alloc | apply pw_below_drewN | apply below_drew1) | exact HB.out))) : w.heap.size ≤ gb101)); have n3_ := Aside0.mk ((by rw [hg]; exact (below_size (by repeat (first | (with_reducible first | exact HB.out | apply below_alloc | apply pw_below_drewN | apply below_drew1) | exact HB.out))) : w.heap.size ≤ gb101)); clear HB; have HB := n0_; have BK101 := n1_; have GW101 := n2_; have GE101 := n3_; clear n0_ n1_ n2_ n3_; clear hb hbox hg; have hcz7_0 : w6.cell? ⟨gb101, 0, none⟩ = some (.int .u8 a0_0) := (blk_cell BK101.out 0).trans rfl; have hcz7_1 : w6.cell? ⟨gb101, 1, none⟩ = some (.bool a0_1) := (blk_cell BK101.out 1).trans rfl; have hfz7_0 := blk_frozen BK101.out 0; have hfz7_1 := blk_frozen BK101.out 1))
      go_ret
      exact ⟨by first | rfl | (simp [errW_none, errW_some] <;> rfl) | (simp [*, errW_none, errW_some] <;> rfl), by repeat (first | (with_reducible first | exact HB.out | apply below_alloc | apply pw_below_drewN | apply below_drew1 | refine below_set ?_ GE101.out) | exact HB.out)⟩
  · rw [if_neg c2] at H
    have c2b0 : ((a0_0 / 2) == 0) = false := beq_eq_false_iff_ne.mpr c2
    have c2b1 : ((a0_0 / 2) != 0) = true := bne_iff_ne.mpr c2
    by_cases c8 : (a0_0 / 2) = 1
    · rw [if_pos c8] at H
      have c8b0 : ((a0_0 / 2) == 1) = true := beq_iff_eq.mpr c8
      have c8b1 : ((a0_0 / 2) != 1) = false := bne_eq_false_iff_eq.mpr c8
      clear c8
      by_cases c9 : (((Go.bits .and .u8 a0_0 1) == 1) != a0_1) = true
      · rw [if_pos c9] at H
        have c9b0 : (((Go.bits .and .u8 a0_0 1) == 1) != a0_1) = true := c9
        (try (have c9b1 : decide (((Go.bits .and .u8 a0_0 1) == 1) = a0_1) = false := by simpa using c9))
        (try (have c9b2 : (((Go.bits .and .u8 a0_0 1) == 1) == a0_1) = false := by simpa using c9))
        (try (have c9b3 : ¬ (((Go.bits .and .u8 a0_0 1) == 1) = a0_1) := by simpa using c9))
        clear c9
        obtain rfl := Option.some.inj H
        go_enter Try.func26, Try.ntmps26
        go_wp2_with (first | ((with_reducible refine gate_dst (N := 1) rfl ?_); refine box_event ?hg (N := 1) ?hd (cs := #[.int .u8 a0_0, .bool a0_1]) (t := 44) ?hr ?_; (case hd => rfl); (case hg => rfl); (case hr => first | (go_simp; done) | (go_simp; rfl)); intro gb101 hg w10 hbox hb; have n0_ := Aside0.mk (below_step (by repeat (first | (with_reducible first | exact HB.out | apply below_alloc | apply pw_below_drewN | apply below_drew1) | exact HB.out)) hb); have n1_ := Aside0.mk (hbox); have n2_ := Aside0.mk ((by rw [hg]; exact (below_size (by repeat (first | (with_reducible first | exact HB.out | apply below_alloc | apply pw_below_drewN | apply below_drew1) | exact HB.out))) : w.heap.size ≤ gb101)); have n3_ := Aside0.mk ((by rw [hg]; exact (below_size (by repeat (first | (with_reducible first | exact HB.out | apply below_alloc | apply pw_below_drewN | apply below_drew1) | exact HB.out))) : w.heap.size ≤ gb101)); clear HB; have HB := n0_; have BK101 := n1_; have GW101 := n2_; have GE101 := n3_; clear n0_ n1_ n2_ n3_; clear hb hbox hg; have hcz11_0 : w10.cell? ⟨gb101, 0, none⟩ = some (.int .u8 a0_0) := (blk_cell BK101.out 0).trans rfl; have hcz11_1 : w10.cell? ⟨gb101, 1, none⟩ = some (.bool a0_1) := (blk_cell BK101.out 1).trans rfl; have hfz11_0 := blk_frozen BK101.out 0; have hfz11_1 := blk_frozen BK101.out 1))
        go_ret
        exact ⟨by first | rfl | (simp [errW_none, errW_some] <;> rfl) | (simp [*, errW_none, errW_some] <;> rfl), by repeat (first | (with_reducible first | exact HB.out | apply below_alloc | apply pw_below_drewN | apply below_drew1 | refine below_set ?_ GE101.out) | exact HB.out)⟩
      · rw [if_neg c9] at H
        have c9b0 : (((Go.bits .and .u8 a0_0 1) == 1) != a0_1) = false := by simpa using c9
        (try (have c9b1 : decide (((Go.bits .and .u8 a0_0 1) == 1) = a0_1) = true := by simpa using c9))
        (try (have c9b2 : (((Go.bits .and .u8 a0_0 1) == 1) == a0_1) = true := by simpa using c9))
        clear c9
        obtain rfl := Option.some.inj H
        go_enter Try.func26, Try.ntmps26
        go_wp2_with (first | ((with_reducible refine gate_dst (N := 1) rfl ?_); refine box_event ?hg (N := 1) ?hd (cs := #[.int .u8 a0_0, .bool a0_1]) (t := 44) ?hr ?_; (case hd => rfl); (case hg => rfl); (case hr => first | (go_simp; done) | (go_simp; rfl)); intro gb101 hg w12 hbox hb; have n0_ := Aside0.mk (below_step (by repeat (first | (with_reducible first | exact HB.out | apply below_alloc | apply pw_below_drewN | apply below_drew1) | exact HB.out)) hb); have n1_ := Aside0.mk (hbox); have n2_ := Aside0.mk ((by rw [hg]; exact (below_size (by repeat (first | (with_reducible first | exact HB.out | apply below_alloc | apply pw_below_drewN | apply below_drew1) | exact HB.out))) : w.heap.size ≤ gb101)); have n3_ := Aside0.mk ((by rw [hg]; exact (below_size (by repeat (first | (with_reducible first | exact HB.out | apply below_alloc | apply pw_below_drewN | apply below_drew1) | exact HB.out))) : w.heap.size ≤ gb101)); clear HB; have HB := n0_; have BK101 := n1_; have GW101 := n2_; have GE101 := n3_; clear n0_ n1_ n2_ n3_; clear hb hbox hg; have hcz13_0 : w12.cell? ⟨gb101, 0, none⟩ = some (.int .u8 a0_0) := (blk_cell BK101.out 0).trans rfl; have hcz13_1 : w12.cell? ⟨gb101, 1, none⟩ = some (.bool a0_1) := (blk_cell BK101.out 1).trans rfl; have hfz13_0 := blk_frozen BK101.out 0; have hfz13_1 := blk_frozen BK101.out 1))
        go_ret
        exact ⟨by first | rfl | (simp [errW_none, errW_some] <;> rfl) | (simp [*, errW_none, errW_some] <;> rfl), by repeat (first | (with_reducible first | exact HB.out | apply below_alloc | apply pw_below_drewN | apply below_drew1 | refine below_set ?_ GE101.out) | exact HB.out)⟩
    · rw [if_neg c8] at H
      have c8b0 : ((a0_0 / 2) == 1) = false := beq_eq_false_iff_ne.mpr c8
      have c8b1 : ((a0_0 / 2) != 1) = true := bne_iff_ne.mpr c8
      by_cases c14 : (a0_0 / 2) = 2
      · rw [if_pos c14] at H
        have c14b0 : ((a0_0 / 2) == 2) = true := beq_iff_eq.mpr c14
        have c14b1 : ((a0_0 / 2) != 2) = false := bne_eq_false_iff_eq.mpr c14
        clear c14
        by_cases c15 : (((Go.bits .and .u8 a0_0 1) == 1) != a0_1) = true
        · rw [if_pos c15] at H
          have c15b0 : (((Go.bits .and .u8 a0_0 1) == 1) != a0_1) = true := c15
          (try (have c15b1 : decide (((Go.bits .and .u8 a0_0 1) == 1) = a0_1) = false := by simpa using c15))
          (try (have c15b2 : (((Go.bits .and .u8 a0_0 1) == 1) == a0_1) = false := by simpa using c15))
          (try (have c15b3 : ¬ (((Go.bits .and .u8 a0_0 1) == 1) = a0_1) := by simpa using c15))
          clear c15
          obtain rfl := Option.some.inj H
          go_enter Try.func26, Try.ntmps26
          go_wp2_with (first | ((with_reducible refine gate_dst (N := 1) rfl ?_); refine box_event ?hg (N := 1) ?hd (cs := #[.int .u8 a0_0, .bool a0_1]) (t := 44) ?hr ?_; (case hd => rfl); (case hg => rfl); (case hr => first | (go_simp; done) | (go_simp; rfl)); intro gb101 hg w16 hbox hb; have n0_ := Aside0.mk (below_step (by repeat (first | (with_reducible first | exact HB.out | apply below_alloc | apply pw_below_drewN | apply below_drew1) | exact HB.out)) hb); have n1_ := Aside0.mk (hbox); have n2_ := Aside0.mk ((by rw [hg]; exact (below_size (by repeat (first | (with_reducible first | exact HB.out | apply below_alloc | apply pw_below_drewN | apply below_drew1) | exact HB.out))) : w.heap.size ≤ gb101)); have n3_ := Aside0.mk ((by rw [hg]; exact (below_size (by repeat (first | (with_reducible first | exact HB.out | apply below_alloc | apply pw_below_drewN | apply below_drew1) | exact HB.out))) : w.heap.size ≤ gb101)); clear HB; have HB := n0_; have BK101 := n1_; have GW101 := n2_; have GE101 := n3_; clear n0_ n1_ n2_ n3_; clear hb hbox hg; have hcz17_0 : w16.cell? ⟨gb101, 0, none⟩ = some (.int .u8 a0_0) := (blk_cell BK101.out 0).trans rfl; have hcz17_1 : w16.cell? ⟨gb101, 1, none⟩ = some (.bool a0_1) := (blk_cell BK101.out 1).trans rfl; have hfz17_0 := blk_frozen BK101.out 0; have hfz17_1 := blk_frozen BK101.out 1))
          go_ret
          exact ⟨by first | rfl | (simp [errW_none, errW_some] <;> rfl) | (simp [*, errW_none, errW_some] <;> rfl), by repeat (first | (with_reducible first | exact HB.out | apply below_alloc | apply pw_below_drewN | apply below_drew1 | refine below_set ?_ GE101.out) | exact HB.out)⟩
        · rw [if_neg c15] at H
          have c15b0 : (((Go.bits .and .u8 a0_0 1) == 1) != a0_1) = false := by simpa using c15
          (try (have c15b1 : decide (((Go.bits .and .u8 a0_0 1) == 1) = a0_1) = true := by simpa using c15))
          (try (have c15b2 : (((Go.bits .and .u8 a0_0 1) == 1) == a0_1) = true := by simpa using c15))
          clear c15
          obtain rfl := Option.some.inj H
          go_enter Try.func26, Try.ntmps26
          go_wp2_with (first | ((with_reducible refine gate_dst (N := 1) rfl ?_); refine box_event ?hg (N := 1) ?hd (cs := #[.int .u8 a0_0, .bool a0_1]) (t := 44) ?hr ?_; (case hd => rfl); (case hg => rfl); (case hr => first | (go_simp; done) | (go_simp; rfl)); intro gb101 hg w18 hbox hb; have n0_ := Aside0.mk (below_step (by repeat (first | (with_reducible first | exact HB.out | apply below_alloc | apply pw_below_drewN | apply below_drew1) | exact HB.out)) hb); have n1_ := Aside0.mk (hbox); have n2_ := Aside0.mk ((by rw [hg]; exact (below_size (by repeat (first | (with_reducible first | exact HB.out | apply below_alloc | apply pw_below_drewN | apply below_drew1) | exact HB.out))) : w.heap.size ≤ gb101)); have n3_ := Aside0.mk ((by rw [hg]; exact (below_size (by repeat (first | (with_reducible first | exact HB.out | apply below_alloc | apply pw_below_drewN | apply below_drew1) | exact HB.out))) : w.heap.size ≤ gb101)); clear HB; have HB := n0_; have BK101 := n1_; have GW101 := n2_; have GE101 := n3_; clear n0_ n1_ n2_ n3_; clear hb hbox hg; have hcz19_0 : w18.cell? ⟨gb101, 0, none⟩ = some (.int .u8 a0_0) := (blk_cell BK101.out 0).trans rfl; have hcz19_1 : w18.cell? ⟨gb101, 1, none⟩ = some (.bool a0_1) := (blk_cell BK101.out 1).trans rfl; have hfz19_0 := blk_frozen BK101.out 0; have hfz19_1 := blk_frozen BK101.out 1))
          go_ret
          exact ⟨by first | rfl | (simp [errW_none, errW_some] <;> rfl) | (simp [*, errW_none, errW_some] <;> rfl), by repeat (first | (with_reducible first | exact HB.out | apply below_alloc | apply pw_below_drewN | apply below_drew1 | refine below_set ?_ GE101.out) | exact HB.out)⟩
      · rw [if_neg c14] at H
        have c14b0 : ((a0_0 / 2) == 2) = false := beq_eq_false_iff_ne.mpr c14
        have c14b1 : ((a0_0 / 2) != 2) = true := bne_iff_ne.mpr c14
        by_cases c20 : (a0_0 / 2) = 3
        · rw [if_pos c20] at H
          have c20b0 : ((a0_0 / 2) == 3) = true := beq_iff_eq.mpr c20
          have c20b1 : ((a0_0 / 2) != 3) = false := bne_eq_false_iff_eq.mpr c20
          clear c20
          by_cases c21 : (((Go.bits .and .u8 a0_0 1) == 1) != a0_1) = true
          · rw [if_pos c21] at H
            have c21b0 : (((Go.bits .and .u8 a0_0 1) == 1) != a0_1) = true := c21
            (try (have c21b1 : decide (((Go.bits .and .u8 a0_0 1) == 1) = a0_1) = false := by simpa using c21))
            (try (have c21b2 : (((Go.bits .and .u8 a0_0 1) == 1) == a0_1) = false := by simpa using c21))
            (try (have c21b3 : ¬ (((Go.bits .and .u8 a0_0 1) == 1) = a0_1) := by simpa using c21))
            clear c21
            obtain rfl := Option.some.inj H
            go_enter Try.func26, Try.ntmps26
            go_wp2_with (first | ((with_reducible refine gate_dst (N := 1) rfl ?_); refine box_event ?hg (N := 1) ?hd (cs := #[.int .u8 a0_0, .bool a0_1]) (t := 44) ?hr ?_; (case hd => rfl); (case hg => rfl); (case hr => first | (go_simp; done) | (go_simp; rfl)); intro gb101 hg w22 hbox hb; have n0_ := Aside0.mk (below_step (by repeat (first | (with_reducible first | exact HB.out | apply below_alloc | apply pw_below_drewN | apply below_drew1) | exact HB.out)) hb); have n1_ := Aside0.mk (hbox); have n2_ := Aside0.mk ((by rw [hg]; exact (below_size (by repeat (first | (with_reducible first | exact HB.out | apply below_alloc | apply pw_below_drewN | apply below_drew1) | exact HB.out))) : w.heap.size ≤ gb101)); have n3_ := Aside0.mk ((by rw [hg]; exact (below_size (by repeat (first | (with_reducible first | exact HB.out | apply below_alloc | apply pw_below_drewN | apply below_drew1) | exact HB.out))) : w.heap.size ≤ gb101)); clear HB; have HB := n0_; have BK101 := n1_; have GW101 := n2_; have GE101 := n3_; clear n0_ n1_ n2_ n3_; clear hb hbox hg; have hcz23_0 : w22.cell? ⟨gb101, 0, none⟩ = some (.int .u8 a0_0) := (blk_cell BK101.out 0).trans rfl; have hcz23_1 : w22.cell? ⟨gb101, 1, none⟩ = some (.bool a0_1) := (blk_cell BK101.out 1).trans rfl; have hfz23_0 := blk_frozen BK101.out 0; have hfz23_1 := blk_frozen BK101.out 1))
            go_ret
            exact ⟨by first | rfl | (simp [errW_none, errW_some] <;> rfl) | (simp [*, errW_none, errW_some] <;> rfl), by repeat (first | (with_reducible first | exact HB.out | apply below_alloc | apply pw_below_drewN | apply below_drew1 | refine below_set ?_ GE101.out) | exact HB.out)⟩
          · rw [if_neg c21] at H
            have c21b0 : (((Go.bits .and .u8 a0_0 1) == 1) != a0_1) = false := by simpa using c21
            (try (have c21b1 : decide (((Go.bits .and .u8 a0_0 1) == 1) = a0_1) = true := by simpa using c21))
            (try (have c21b2 : (((Go.bits .and .u8 a0_0 1) == 1) == a0_1) = true := by simpa using c21))
            clear c21
            obtain rfl := Option.some.inj H
            go_enter Try.func26, Try.ntmps26
            go_wp2_with (first | ((with_reducible refine gate_dst (N := 1) rfl ?_); refine box_event ?hg (N := 1) ?hd (cs := #[.int .u8 a0_0, .bool a0_1]) (t := 44) ?hr ?_; (case hd => rfl); (case hg => rfl); (case hr => first | (go_simp; done) | (go_simp; rfl)); intro gb101 hg w24 hbox hb; have n0_ := Aside0.mk (below_step (by repeat (first | (with_reducible first | exact HB.out | apply below_alloc | apply pw_below_drewN | apply below_drew1) | exact HB.out)) hb); have n1_ := Aside0.mk (hbox); have n2_ := Aside0.mk ((by rw [hg]; exact (below_size (by repeat (first | (with_reducible first | exact HB.out | apply below_alloc | apply pw_below_drewN | apply below_drew1) | exact HB.out))) : w.heap.size ≤ gb101)); have n3_ := Aside0.mk ((by rw [hg]; exact (below_size (by repeat (first | (with_reducible first | exact HB.out | apply below_alloc | apply pw_below_drewN | apply below_drew1) | exact HB.out))) : w.heap.size ≤ gb101)); clear HB; have HB := n0_; have BK101 := n1_; have GW101 := n2_; have GE101 := n3_; clear n0_ n1_ n2_ n3_; clear hb hbox hg; have hcz25_0 : w24.cell? ⟨gb101, 0, none⟩ = some (.int .u8 a0_0) := (blk_cell BK101.out 0).trans rfl; have hcz25_1 : w24.cell? ⟨gb101, 1, none⟩ = some (.bool a0_1) := (blk_cell BK101.out 1).trans rfl; have hfz25_0 := blk_frozen BK101.out 0; have hfz25_1 := blk_frozen BK101.out 1))
            go_ret
            exact ⟨by first | rfl | (simp [errW_none, errW_some] <;> rfl) | (simp [*, errW_none, errW_some] <;> rfl), by repeat (first | (with_reducible first | exact HB.out | apply below_alloc | apply pw_below_drewN | apply below_drew1 | refine below_set ?_ GE101.out) | exact HB.out)⟩
        · rw [if_neg c20] at H
          have c20b0 : ((a0_0 / 2) == 3) = false := beq_eq_false_iff_ne.mpr c20
          have c20b1 : ((a0_0 / 2) != 3) = true := bne_iff_ne.mpr c20
          by_cases c26 : (a0_0 / 2) = 4
          · rw [if_pos c26] at H
            have c26b0 : ((a0_0 / 2) == 4) = true := beq_iff_eq.mpr c26
            have c26b1 : ((a0_0 / 2) != 4) = false := bne_eq_false_iff_eq.mpr c26
            clear c26
            by_cases c27 : (((Go.bits .and .u8 a0_0 1) == 1) != a0_1) = true
            · rw [if_pos c27] at H
              have c27b0 : (((Go.bits .and .u8 a0_0 1) == 1) != a0_1) = true := c27
              (try (have c27b1 : decide (((Go.bits .and .u8 a0_0 1) == 1) = a0_1) = false := by simpa using c27))
              (try (have c27b2 : (((Go.bits .and .u8 a0_0 1) == 1) == a0_1) = false := by simpa using c27))
              (try (have c27b3 : ¬ (((Go.bits .and .u8 a0_0 1) == 1) = a0_1) := by simpa using c27))
              clear c27
              obtain rfl := Option.some.inj H
              go_enter Try.func26, Try.ntmps26
              go_wp2_with (first | ((with_reducible refine gate_dst (N := 1) rfl ?_); refine box_event ?hg (N := 1) ?hd (cs := #[.int .u8 a0_0, .bool a0_1]) (t := 44) ?hr ?_; (case hd => rfl); (case hg => rfl); (case hr => first | (go_simp; done) | (go_simp; rfl)); intro gb101 hg w28 hbox hb; have n0_ := Aside0.mk (below_step (by repeat (first | (with_reducible first | exact HB.out | apply below_alloc | apply pw_below_drewN | apply below_drew1) | exact HB.out)) hb); have n1_ := Aside0.mk (hbox); have n2_ := Aside0.mk ((by rw [hg]; exact (below_size (by repeat (first | (with_reducible first | exact HB.out | apply below_alloc | apply pw_below_drewN | apply below_drew1) | exact HB.out))) : w.heap.size ≤ gb101)); have n3_ := Aside0.mk ((by rw [hg]; exact (below_size (by repeat (first | (with_reducible first | exact HB.out | apply below_alloc | apply pw_below_drewN | apply below_drew1) | exact HB.out))) : w.heap.size ≤ gb101)); clear HB; have HB := n0_; have BK101 := n1_; have GW101 := n2_; have GE101 := n3_; clear n0_ n1_ n2_ n3_; clear hb hbox hg; have hcz29_0 : w28.cell? ⟨gb101, 0, none⟩ = some (.int .u8 a0_0) := (blk_cell BK101.out 0).trans rfl; have hcz29_1 : w28.cell? ⟨gb101, 1, none⟩ = some (.bool a0_1) := (blk_cell BK101.out 1).trans rfl; have hfz29_0 := blk_frozen BK101.out 0; have hfz29_1 := blk_frozen BK101.out 1))
              go_ret
              exact ⟨by first | rfl | (simp [errW_none, errW_some] <;> rfl) | (simp [*, errW_none, errW_some] <;> rfl), by repeat (first | (with_reducible first | exact HB.out | apply below_alloc | apply pw_below_drewN | apply below_drew1 | refine below_set ?_ GE101.out) | exact HB.out)⟩
            · rw [if_neg c27] at H
              have c27b0 : (((Go.bits .and .u8 a0_0 1) == 1) != a0_1) = false := by simpa using c27
              (try (have c27b1 : decide (((Go.bits .and .u8 a0_0 1) == 1) = a0_1) = true := by simpa using c27))
              (try (have c27b2 : (((Go.bits .and .u8 a0_0 1) == 1) == a0_1) = true := by simpa using c27))
              clear c27
              obtain rfl := Option.some.inj H
              go_enter Try.func26, Try.ntmps26
              go_wp2_with (first | ((with_reducible refine gate_dst (N := 1) rfl ?_); refine box_event ?hg (N := 1) ?hd (cs := #[.int .u8 a0_0, .bool a0_1]) (t := 44) ?hr ?_; (case hd => rfl); (case hg => rfl); (case hr => first | (go_simp; done) | (go_simp; rfl)); intro gb101 hg w30 hbox hb; have n0_ := Aside0.mk (below_step (by repeat (first | (with_reducible first | exact HB.out | apply below_alloc | apply pw_below_drewN | apply below_drew1) | exact HB.out)) hb); have n1_ := Aside0.mk (hbox); have n2_ := Aside0.mk ((by rw [hg]; exact (below_size (by repeat (first | (with_reducible first | exact HB.out | apply below_alloc | apply pw_below_drewN | apply below_drew1) | exact HB.out))) : w.heap.size ≤ gb101)); have n3_ := Aside0.mk ((by rw [hg]; exact (below_size (by repeat (first | (with_reducible first | exact HB.out | apply below_alloc | apply pw_below_drewN | apply below_drew1) | exact HB.out))) : w.heap.size ≤ gb101)); clear HB; have HB := n0_; have BK101 := n1_; have GW101 := n2_; have GE101 := n3_; clear n0_ n1_ n2_ n3_; clear hb hbox hg; have hcz31_0 : w30.cell? ⟨gb101, 0, none⟩ = some (.int .u8 a0_0) := (blk_cell BK101.out 0).trans rfl; have hcz31_1 : w30.cell? ⟨gb101, 1, none⟩ = some (.bool a0_1) := (blk_cell BK101.out 1).trans rfl; have hfz31_0 := blk_frozen BK101.out 0; have hfz31_1 := blk_frozen BK101.out 1))
              go_ret
              exact ⟨by first | rfl | (simp [errW_none, errW_some] <;> rfl) | (simp [*, errW_none, errW_some] <;> rfl), by repeat (first | (with_reducible first | exact HB.out | apply below_alloc | apply pw_below_drewN | apply below_drew1 | refine below_set ?_ GE101.out) | exact HB.out)⟩
          · rw [if_neg c26] at H
            have c26b0 : ((a0_0 / 2) == 4) = false := beq_eq_false_iff_ne.mpr c26
            have c26b1 : ((a0_0 / 2) != 4) = true := bne_iff_ne.mpr c26
            by_cases c32 : (a0_0 / 2) = 5
            · rw [if_pos c32] at H
              have c32b0 : ((a0_0 / 2) == 5) = true := beq_iff_eq.mpr c32
              have c32b1 : ((a0_0 / 2) != 5) = false := bne_eq_false_iff_eq.mpr c32
              clear c32
              by_cases c33 : (((Go.bits .and .u8 a0_0 1) == 1) != a0_1) = true
              · rw [if_pos c33] at H
                have c33b0 : (((Go.bits .and .u8 a0_0 1) == 1) != a0_1) = true := c33
                (try (have c33b1 : decide (((Go.bits .and .u8 a0_0 1) == 1) = a0_1) = false := by simpa using c33))
                (try (have c33b2 : (((Go.bits .and .u8 a0_0 1) == 1) == a0_1) = false := by simpa using c33))
                (try (have c33b3 : ¬ (((Go.bits .and .u8 a0_0 1) == 1) = a0_1) := by simpa using c33))
                clear c33
                obtain rfl := Option.some.inj H
                go_enter Try.func26, Try.ntmps26
                go_wp2_with (first | ((with_reducible refine gate_dst (N := 1) rfl ?_); refine box_event ?hg (N := 1) ?hd (cs := #[.int .u8 a0_0, .bool a0_1]) (t := 44) ?hr ?_; (case hd => rfl); (case hg => rfl); (case hr => first | (go_simp; done) | (go_simp; rfl)); intro gb101 hg w34 hbox hb; have n0_ := Aside0.mk (below_step (by repeat (first | (with_reducible first | exact HB.out | apply below_alloc | apply pw_below_drewN | apply below_drew1) | exact HB.out)) hb); have n1_ := Aside0.mk (hbox); have n2_ := Aside0.mk ((by rw [hg]; exact (below_size (by repeat (first | (with_reducible first | exact HB.out | apply below_alloc | apply pw_below_drewN | apply below_drew1) | exact HB.out))) : w.heap.size ≤ gb101)); have n3_ := Aside0.mk ((by rw [hg]; exact (below_size (by repeat (first | (with_reducible first | exact HB.out | apply below_alloc | apply pw_below_drewN | apply below_drew1) | exact HB.out))) : w.heap.size ≤ gb101)); clear HB; have HB := n0_; have BK101 := n1_; have GW101 := n2_; have GE101 := n3_; clear n0_ n1_ n2_ n3_; clear hb hbox hg; have hcz35_0 : w34.cell? ⟨gb101, 0, none⟩ = some (.int .u8 a0_0) := (blk_cell BK101.out 0).trans rfl; have hcz35_1 : w34.cell? ⟨gb101, 1, none⟩ = some (.bool a0_1) := (blk_cell BK101.out 1).trans rfl; have hfz35_0 := blk_frozen BK101.out 0; have hfz35_1 := blk_frozen BK101.out 1))
                go_ret
                exact ⟨by first | rfl | (simp [errW_none, errW_some] <;> rfl) | (simp [*, errW_none, errW_some] <;> rfl), by repeat (first | (with_reducible first | exact HB.out | apply below_alloc | apply pw_below_drewN | apply below_drew1 | refine below_set ?_ GE101.out) | exact HB.out)⟩
              · rw [if_neg c33] at H
                have c33b0 : (((Go.bits .and .u8 a0_0 1) == 1) != a0_1) = false := by simpa using c33
                (try (have c33b1 : decide (((Go.bits .and .u8 a0_0 1) == 1) = a0_1) = true := by simpa using c33))
                (try (have c33b2 : (((Go.bits .and .u8 a0_0 1) == 1) == a0_1) = true := by simpa using c33))
                clear c33
                obtain rfl := Option.some.inj H
                go_enter Try.func26, Try.ntmps26
                go_wp2_with (first | ((with_reducible refine gate_dst (N := 1) rfl ?_); refine box_event ?hg (N := 1) ?hd (cs := #[.int .u8 a0_0, .bool a0_1]) (t := 44) ?hr ?_; (case hd => rfl); (case hg => rfl); (case hr => first | (go_simp; done) | (go_simp; rfl)); intro gb101 hg w36 hbox hb; have n0_ := Aside0.mk (below_step (by repeat (first | (with_reducible first | exact HB.out | apply below_alloc | apply pw_below_drewN | apply below_drew1) | exact HB.out)) hb); have n1_ := Aside0.mk (hbox); have n2_ := Aside0.mk ((by rw [hg]; exact (below_size (by repeat (first | (with_reducible first | exact HB.out | apply below_alloc | apply pw_below_drewN | apply below_drew1) | exact HB.out))) : w.heap.size ≤ gb101)); have n3_ := Aside0.mk ((by rw [hg]; exact (below_size (by repeat (first | (with_reducible first | exact HB.out | apply below_alloc | apply pw_below_drewN | apply below_drew1) | exact HB.out))) : w.heap.size ≤ gb101)); clear HB; have HB := n0_; have BK101 := n1_; have GW101 := n2_; have GE101 := n3_; clear n0_ n1_ n2_ n3_; clear hb hbox hg; have hcz37_0 : w36.cell? ⟨gb101, 0, none⟩ = some (.int .u8 a0_0) := (blk_cell BK101.out 0).trans rfl; have hcz37_1 : w36.cell? ⟨gb101, 1, none⟩ = some (.bool a0_1) := (blk_cell BK101.out 1).trans rfl; have hfz37_0 := blk_frozen BK101.out 0; have hfz37_1 := blk_frozen BK101.out 1))
                go_ret
                exact ⟨by first | rfl | (simp [errW_none, errW_some] <;> rfl) | (simp [*, errW_none, errW_some] <;> rfl), by repeat (first | (with_reducible first | exact HB.out | apply below_alloc | apply pw_below_drewN | apply below_drew1 | refine below_set ?_ GE101.out) | exact HB.out)⟩
            · rw [if_neg c32] at H
              have c32b0 : ((a0_0 / 2) == 5) = false := beq_eq_false_iff_ne.mpr c32
              have c32b1 : ((a0_0 / 2) != 5) = true := bne_iff_ne.mpr c32
              by_cases c38 : (a0_0 / 2) = 6
              · rw [if_pos c38] at H
                have c38b0 : ((a0_0 / 2) == 6) = true := beq_iff_eq.mpr c38
                have c38b1 : ((a0_0 / 2) != 6) = false := bne_eq_false_iff_eq.mpr c38
                clear c38
                by_cases c39 : (((Go.bits .and .u8 a0_0 1) == 1) != a0_1) = true
                · rw [if_pos c39] at H
                  have c39b0 : (((Go.bits .and .u8 a0_0 1) == 1) != a0_1) = true := c39
                  (try (have c39b1 : decide (((Go.bits .and .u8 a0_0 1) == 1) = a0_1) = false := by simpa using c39))
                  (try (have c39b2 : (((Go.bits .and .u8 a0_0 1) == 1) == a0_1) = false := by simpa using c39))
                  (try (have c39b3 : ¬ (((Go.bits .and .u8 a0_0 1) == 1) = a0_1) := by simpa using c39))
                  clear c39
                  obtain rfl := Option.some.inj H
                  go_enter Try.func26, Try.ntmps26
                  go_wp2_with (first | ((with_reducible refine gate_dst (N := 1) rfl ?_); refine box_event ?hg (N := 1) ?hd (cs := #[.int .u8 a0_0, .bool a0_1]) (t := 44) ?hr ?_; (case hd => rfl); (case hg => rfl); (case hr => first | (go_simp; done) | (go_simp; rfl)); intro gb101 hg w40 hbox hb; have n0_ := Aside0.mk (below_step (by repeat (first | (with_reducible first | exact HB.out | apply below_alloc | apply pw_below_drewN | apply below_drew1) | exact HB.out)) hb); have n1_ := Aside0.mk (hbox); have n2_ := Aside0.mk ((by rw [hg]; exact (below_size (by repeat (first | (with_reducible first | exact HB.out | apply below_alloc | apply pw_below_drewN | apply below_drew1) | exact HB.out))) : w.heap.size ≤ gb101)); have n3_ := Aside0.mk ((by rw [hg]; exact (below_size (by repeat (first | (with_reducible first | exact HB.out | apply below_alloc | apply pw_below_drewN | apply below_drew1) | exact HB.out))) : w.heap.size ≤ gb101)); clear HB; have HB := n0_; have BK101 := n1_; have GW101 := n2_; have GE101 := n3_; clear n0_ n1_ n2_ n3_; clear hb hbox hg; have hcz41_0 : w40.cell? ⟨gb101, 0, none⟩ = some (.int .u8 a0_0) := (blk_cell BK101.out 0).trans rfl; have hcz41_1 : w40.cell? ⟨gb101, 1, none⟩ = some (.bool a0_1) := (blk_cell BK101.out 1).trans rfl; have hfz41_0 := blk_frozen BK101.out 0; have hfz41_1 := blk_frozen BK101.out 1))
                  go_ret
                  exact ⟨by first | rfl | (simp [errW_none, errW_some] <;> rfl) | (simp [*, errW_none, errW_some] <;> rfl), by repeat (first | (with_reducible first | exact HB.out | apply below_alloc | apply pw_below_drewN | apply below_drew1 | refine below_set ?_ GE101.out) | exact HB.out)⟩
                · rw [if_neg c39] at H
                  have c39b0 : (((Go.bits .and .u8 a0_0 1) == 1) != a0_1) = false := by simpa using c39
                  (try (have c39b1 : decide (((Go.bits .and .u8 a0_0 1) == 1) = a0_1) = true := by simpa using c39))
                  (try (have c39b2 : (((Go.bits .and .u8 a0_0 1) == 1) == a0_1) = true := by simpa using c39))
                  clear c39
                  obtain rfl := Option.some.inj H
                  go_enter Try.func26, Try.ntmps26
                  go_wp2_with (first | ((with_reducible refine gate_dst (N := 1) rfl ?_); refine box_event ?hg (N := 1) ?hd (cs := #[.int .u8 a0_0, .bool a0_1]) (t := 44) ?hr ?_; (case hd => rfl); (case hg => rfl); (case hr => first | (go_simp; done) | (go_simp; rfl)); intro gb101 hg w42 hbox hb; have n0_ := Aside0.mk (below_step (by repeat (first | (with_reducible first | exact HB.out | apply below_alloc | apply pw_below_drewN | apply below_drew1) | exact HB.out)) hb); have n1_ := Aside0.mk (hbox); have n2_ := Aside0.mk ((by rw [hg]; exact (below_size (by repeat (first | (with_reducible first | exact HB.out | apply below_alloc | apply pw_below_drewN | apply below_drew1) | exact HB.out))) : w.heap.size ≤ gb101)); have n3_ := Aside0.mk ((by rw [hg]; exact (below_size (by repeat (first | (with_reducible first | exact HB.out | apply below_alloc | apply pw_below_drewN | apply below_drew1) | exact HB.out))) : w.heap.size ≤ gb101)); clear HB; have HB := n0_; have BK101 := n1_; have GW101 := n2_; have GE101 := n3_; clear n0_ n1_ n2_ n3_; clear hb hbox hg; have hcz43_0 : w42.cell? ⟨gb101, 0, none⟩ = some (.int .u8 a0_0) := (blk_cell BK101.out 0).trans rfl; have hcz43_1 : w42.cell? ⟨gb101, 1, none⟩ = some (.bool a0_1) := (blk_cell BK101.out 1).trans rfl; have hfz43_0 := blk_frozen BK101.out 0; have hfz43_1 := blk_frozen BK101.out 1))
                  go_ret
                  exact ⟨by first | rfl | (simp [errW_none, errW_some] <;> rfl) | (simp [*, errW_none, errW_some] <;> rfl), by repeat (first | (with_reducible first | exact HB.out | apply below_alloc | apply pw_below_drewN | apply below_drew1 | refine below_set ?_ GE101.out) | exact HB.out)⟩
              · rw [if_neg c38] at H
                have c38b0 : ((a0_0 / 2) == 6) = false := beq_eq_false_iff_ne.mpr c38
                have c38b1 : ((a0_0 / 2) != 6) = true := bne_iff_ne.mpr c38
                by_cases c44 : (a0_0 / 2) = 7
                · rw [if_pos c44] at H
                  have c44b0 : ((a0_0 / 2) == 7) = true := beq_iff_eq.mpr c44
                  have c44b1 : ((a0_0 / 2) != 7) = false := bne_eq_false_iff_eq.mpr c44
                  clear c44
                  obtain rfl := Option.some.inj H
                  go_enter Try.func26, Try.ntmps26
                  go_wp2_with (first | ((with_reducible refine gate_dst (N := 1) rfl ?_); refine box_event ?hg (N := 1) ?hd (cs := #[.int .u8 a0_0, .bool a0_1]) (t := 44) ?hr ?_; (case hd => rfl); (case hg => rfl); (case hr => first | (go_simp; done) | (go_simp; rfl)); intro gb101 hg w45 hbox hb; have n0_ := Aside0.mk (below_step (by repeat (first | (with_reducible first | exact HB.out | apply below_alloc | apply pw_below_drewN | apply below_drew1) | exact HB.out)) hb); have n1_ := Aside0.mk (hbox); have n2_ := Aside0.mk ((by rw [hg]; exact (below_size (by repeat (first | (with_reducible first | exact HB.out | apply below_alloc | apply pw_below_drewN | apply below_drew1) | exact HB.out))) : w.heap.size ≤ gb101)); have n3_ := Aside0.mk ((by rw [hg]; exact (below_size (by repeat (first | (with_reducible first | exact HB.out | apply below_alloc | apply pw_below_drewN | apply below_drew1) | exact HB.out))) : w.heap.size ≤ gb101)); clear HB; have HB := n0_; have BK101 := n1_; have GW101 := n2_; have GE101 := n3_; clear n0_ n1_ n2_ n3_; clear hb hbox hg; have hcz46_0 : w45.cell? ⟨gb101, 0, none⟩ = some (.int .u8 a0_0) := (blk_cell BK101.out 0).trans rfl; have hcz46_1 : w45.cell? ⟨gb101, 1, none⟩ = some (.bool a0_1) := (blk_cell BK101.out 1).trans rfl; have hfz46_0 := blk_frozen BK101.out 0; have hfz46_1 := blk_frozen BK101.out 1))
                  go_ret
                  exact ⟨by first | rfl | (simp [errW_none, errW_some] <;> rfl) | (simp [*, errW_none, errW_some] <;> rfl), by repeat (first | (with_reducible first | exact HB.out | apply below_alloc | apply pw_below_drewN | apply below_drew1 | refine below_set ?_ GE101.out) | exact HB.out)⟩
                · rw [if_neg c44] at H
                  have c44b0 : ((a0_0 / 2) == 7) = false := beq_eq_false_iff_ne.mpr c44
                  have c44b1 : ((a0_0 / 2) != 7) = true := bne_iff_ne.mpr c44
                  obtain rfl := Option.some.inj H
                  go_enter Try.func26, Try.ntmps26
                  go_wp2_with (first | ((with_reducible refine gate_dst (N := 1) rfl ?_); refine box_event ?hg (N := 1) ?hd (cs := #[.int .u8 a0_0, .bool a0_1]) (t := 44) ?hr ?_; (case hd => rfl); (case hg => rfl); (case hr => first | (go_simp; done) | (go_simp; rfl)); intro gb101 hg w47 hbox hb; have n0_ := Aside0.mk (below_step (by repeat (first | (with_reducible first | exact HB.out | apply below_alloc | apply pw_below_drewN | apply below_drew1) | exact HB.out)) hb); have n1_ := Aside0.mk (hbox); have n2_ := Aside0.mk ((by rw [hg]; exact (below_size (by repeat (first | (with_reducible first | exact HB.out | apply below_alloc | apply pw_below_drewN | apply below_drew1) | exact HB.out))) : w.heap.size ≤ gb101)); have n3_ := Aside0.mk ((by rw [hg]; exact (below_size (by repeat (first | (with_reducible first | exact HB.out | apply below_alloc | apply pw_below_drewN | apply below_drew1) | exact HB.out))) : w.heap.size ≤ gb101)); clear HB; have HB := n0_; have BK101 := n1_; have GW101 := n2_; have GE101 := n3_; clear n0_ n1_ n2_ n3_; clear hb hbox hg; have hcz48_0 : w47.cell? ⟨gb101, 0, none⟩ = some (.int .u8 a0_0) := (blk_cell BK101.out 0).trans rfl; have hcz48_1 : w47.cell? ⟨gb101, 1, none⟩ = some (.bool a0_1) := (blk_cell BK101.out 1).trans rfl; have hfz48_0 := blk_frozen BK101.out 0; have hfz48_1 := blk_frozen BK101.out 1))
                  go_ret
                  exact ⟨by first | rfl | (simp [errW_none, errW_some] <;> rfl) | (simp [*, errW_none, errW_some] <;> rfl), by repeat (first | (with_reducible first | exact HB.out | apply below_alloc | apply pw_below_drewN | apply below_drew1 | refine below_set ?_ GE101.out) | exact HB.out)⟩

/-! ### impl_CondText: function 20 -/
def impl_CondText.f (a0 : Int) (a1 : Bool) : Option (ByteArray) := (arm64asm_Cond_String.f ((a0) % 256) a1).bind fun t102 => (some t102)
set_option maxHeartbeats 8000000 in
set_option maxRecDepth 100000 in
theorem impl_CondText.calls (a0 : Int) (a1 : Bool) (r : ByteArray) (w : World) (h : impl_CondText.f a0 a1 = some r) :
    Calls Try.prog 20 #[.int .i64 a0, .bool a1] w fun e w' => e = .returned (.string r) ∧ Below w.heap.size w w' := by
  have hu44 := Try.underlying44
  have HB := Aside0.mk (Below.refl w.heap.size w)
  have H : ((arm64asm_Cond_String.f ((a0) % 256) a1).bind fun t102 => (some t102)) = some r := h
  clear h
  replace H := Option.bind_eq_some_iff.mp H
  obtain ⟨t102, A30, H⟩ := H
  replace H : (some t102) = some r := H
  have A3 := Aside0.mk A30
  clear A30
  obtain rfl := Option.some.inj H
  go_enter Try.func20, Try.ntmps20
  go_wp2_with (first | ((with_reducible refine gate_callee (f := 26) rfl ?_); refine goesL_ (some 9) rfl rfl Try.func26 (by kernel_rfl) rfl #[.agg #[.int .u8 ((a0) % 256), .bool a1]] rfl (by (try simp only [List.map_toArray, List.map_cons, List.map_nil]); first | done | rfl | (simp only [List.length_drop, List.length_take]; rfl)) ?_; (with_reducible refine (arm64asm_Cond_String.calls ((a0) % 256) a1 t102 _ A3.out).mono ?_); rintro e w4 ⟨rfl, hb⟩; refine ⟨_, rfl, ?_⟩; have n0_ := Aside0.mk (below_step (by repeat (first | (with_reducible first | exact HB.out | apply below_alloc | apply pw_below_drewN | apply below_drew1) | exact HB.out)) hb); clear HB; have HB := n0_; clear n0_; (try clear hb); (try clear hb2); (try clear hk); (try clear hi)))
  go_ret
  exact ⟨by first | rfl | (simp [errW_none, errW_some] <;> rfl) | (simp [*, errW_none, errW_some] <;> rfl), by repeat (first | (with_reducible first | exact HB.out | apply below_alloc | apply pw_below_drewN | apply below_drew1) | exact HB.out)⟩

end Go.Proofs.Ythcboddeannjcaa.PFnCondText
