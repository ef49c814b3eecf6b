/- The walks of the laws, each over the thin package's and the reference's contracts. -/
import Derived.Test.YtfbdgpopkkmkjacArg
namespace Go.Proofs.Ytfbdgpopkkmkjac.Arg
open Go.RowKit
theorem abs {f : FuncId} {args : Array Value} {w : World} {v : Value} (h : Calls Try.prog f args w fun e w' => e = .returned v ∧ Below w.heap.size w w') (B : Nat) (w0 : World) (hb : Below B w0 w) (hB : B ≤ w.heap.size) :
    Calls Try.prog f args w fun e w' => e = .returned v ∧ Below B w0 w' ∧ B ≤ w'.heap.size :=
  h.mono fun _ _ ⟨he, hx⟩ => ⟨he, hb.trans (hx.mono hB), Nat.le_trans hB hx.size⟩
theorem of_draws {f : FuncId} {args : Array Value} {w : World} {v : Value} (h : Calls Try.prog f args w fun e w' => e = .returned v ∧ ∃ n, w' = w.drewN n) :
    Calls Try.prog f args w fun e w' => e = .returned v ∧ Below w.heap.size w w' :=
  h.mono fun _ _ ⟨he, n, hn⟩ => ⟨he, by rw [hn]; exact bel_drewN (Below.refl _ _) n⟩
theorem of_same {f : FuncId} {args : Array Value} {w : World} {v : Value} (h : Calls Try.prog f args w fun e w' => e = .returned v ∧ w' = w) :
    Calls Try.prog f args w fun e w' => e = .returned v ∧ Below w.heap.size w w' :=
  h.mono fun _ _ ⟨he, hn⟩ => ⟨he, by rw [hn]; exact Below.refl _ _⟩
theorem n_any (v : Int) (w : World)  : Calls Try.prog 22 #[.int .i64 v] w fun e w' => e = .returned (.agg #[.int .i64 4, .int .i64 0, .int .i64 v]) ∧ Below w.heap.size w w' := by
  go_enter Try.func22, Try.ntmps22
  go_wp2
  exact bodyPost_ret (v := .agg #[.int .i64 4, .int .i64 0, .int .i64 v]) (by simp [results, Try.results22, go_sem]) rfl ⟨rfl, by repeat (first | exact Below.refl _ _ | (refine Below.alloc ?_ (by simp; try omega) _))⟩
theorem r_any (v : Int) (w : World)  : Calls Try.prog 17 #[.int .i64 v] w fun e w' => e = .returned (.agg #[.int .i64 1, .int .i64 v, .int .i64 0]) ∧ Below w.heap.size w w' := by
  go_enter Try.func17, Try.ntmps17
  go_wp2
  exact bodyPost_ret (v := .agg #[.int .i64 1, .int .i64 v, .int .i64 0]) (by simp [results, Try.results17, go_sem]) rfl ⟨rfl, by repeat (first | exact Below.refl _ _ | (refine Below.alloc ?_ (by simp; try omega) _))⟩
theorem like_reg (k r : Int) (w : World) (hk : k < 4) : Calls Try.prog 15 #[.agg #[.int .i64 k, .int .i64 r, .int .i64 0], .agg #[.int .i64 k, .int .i64 r, .int .i64 0]] w fun e w' => e = .returned (.bool true) ∧ Below w.heap.size w w' := by
  go_enter Try.func15, Try.ntmps15
  go_wp2
  go_ret
  exact ⟨rfl, by repeat (first | exact Below.refl _ _ | (refine Below.alloc ?_ (by simp; try omega) _))⟩
theorem like_num (k n : Int) (w : World) (hk : 4 ≤ k) (hk2 : k ≤ 8) : Calls Try.prog 15 #[.agg #[.int .i64 k, .int .i64 0, .int .i64 n], .agg #[.int .i64 4, .int .i64 0, .int .i64 n]] w fun e w' => e = .returned (.bool true) ∧ Below w.heap.size w w' := by
  go_enter Try.func15, Try.ntmps15
  go_wp2
  go_ret
  exact ⟨rfl, by repeat (first | exact Below.refl _ _ | (refine Below.alloc ?_ (by simp; try omega) _))⟩
theorem far_z (k s : Int) (w : World) (hk : 4 ≤ k) (hk2 : k ≤ 8) (s0 : -33554432 ≤ s) (s1 : s ≤ 33554432) (hs : s = 0) : Calls Try.prog 26 #[.agg #[.int .i64 k, .int .i64 0, .int .i64 (4 * s)], .int .i64 s] w fun e w' => e = .returned (.bool true) ∧ Below w.heap.size w w' := by
  subst hs
  go_enter Try.func26, Try.ntmps26
  go_wp2
  go_ret
  exact ⟨rfl, by repeat (first | exact Below.refl _ _ | (refine Below.alloc ?_ (by simp; try omega) _))⟩
theorem far_p (k s : Int) (w : World) (hk : 4 ≤ k) (hk2 : k ≤ 8) (s0 : -33554432 ≤ s) (s1 : s ≤ 33554432) (hs : 0 < s) : Calls Try.prog 26 #[.agg #[.int .i64 k, .int .i64 0, .int .i64 (4 * s)], .int .i64 s] w fun e w' => e = .returned (.bool true) ∧ Below w.heap.size w w' := by
  skip
  go_enter Try.func26, Try.ntmps26
  go_wp2
  go_ret
  exact ⟨rfl, by repeat (first | exact Below.refl _ _ | (refine Below.alloc ?_ (by simp; try omega) _))⟩
theorem far_m (k s : Int) (w : World) (hk : 4 ≤ k) (hk2 : k ≤ 8) (s0 : -33554432 ≤ s) (s1 : s ≤ 33554432) (hs : s < 0) : Calls Try.prog 26 #[.agg #[.int .i64 k, .int .i64 0, .int .i64 (4 * s)], .int .i64 s] w fun e w' => e = .returned (.bool true) ∧ Below w.heap.size w w' := by
  skip
  go_enter Try.func26, Try.ntmps26
  go_wp2
  go_ret
  exact ⟨rfl, by repeat (first | exact Below.refl _ _ | (refine Below.alloc ?_ (by simp; try omega) _))⟩
theorem far_any (k s : Int) (w : World) (hk : 4 ≤ k) (hk2 : k ≤ 8) (s0 : -33554432 ≤ s) (s1 : s ≤ 33554432) : Calls Try.prog 26 #[.agg #[.int .i64 k, .int .i64 0, .int .i64 (4 * s)], .int .i64 s] w fun e w' => e = .returned (.bool true) ∧ Below w.heap.size w w' := by
  by_cases hz : s = 0
  · exact far_z k s w hk hk2 s0 s1 hz
  by_cases hp : 0 < s
  · exact far_p k s w hk hk2 s0 s1 hp
  exact far_m k s w hk hk2 s0 s1 (by omega)
theorem signed_12 (v : Int) (w : World) (h0 : 0 ≤ v) (h1 : v < 4096) : Calls Try.prog 25 #[.int .i64 v, .int .i64 12] w fun e w' => e = .returned (.int .i64 (sg 2048 v)) ∧ w' = w := by
  unfold sg
  by_cases hs : 2048 ≤ v
  · rw [if_pos hs]
    go_enter Try.func25, Try.ntmps25
    go_wp2
    go_ret
    exact ⟨rfl, rfl⟩
  · rw [if_neg hs]
    go_enter Try.func25, Try.ntmps25
    go_wp2
    go_ret
    exact ⟨rfl, rfl⟩
theorem signed_14 (v : Int) (w : World) (h0 : 0 ≤ v) (h1 : v < 16384) : Calls Try.prog 25 #[.int .i64 v, .int .i64 14] w fun e w' => e = .returned (.int .i64 (sg 8192 v)) ∧ w' = w := by
  unfold sg
  by_cases hs : 8192 ≤ v
  · rw [if_pos hs]
    go_enter Try.func25, Try.ntmps25
    go_wp2
    go_ret
    exact ⟨rfl, rfl⟩
  · rw [if_neg hs]
    go_enter Try.func25, Try.ntmps25
    go_wp2
    go_ret
    exact ⟨rfl, rfl⟩
theorem signed_16 (v : Int) (w : World) (h0 : 0 ≤ v) (h1 : v < 65536) : Calls Try.prog 25 #[.int .i64 v, .int .i64 16] w fun e w' => e = .returned (.int .i64 (sg 32768 v)) ∧ w' = w := by
  unfold sg
  by_cases hs : 32768 ≤ v
  · rw [if_pos hs]
    go_enter Try.func25, Try.ntmps25
    go_wp2
    go_ret
    exact ⟨rfl, rfl⟩
  · rw [if_neg hs]
    go_enter Try.func25, Try.ntmps25
    go_wp2
    go_ret
    exact ⟨rfl, rfl⟩
theorem signed_20 (v : Int) (w : World) (h0 : 0 ≤ v) (h1 : v < 1048576) : Calls Try.prog 25 #[.int .i64 v, .int .i64 20] w fun e w' => e = .returned (.int .i64 (sg 524288 v)) ∧ w' = w := by
  unfold sg
  by_cases hs : 524288 ≤ v
  · rw [if_pos hs]
    go_enter Try.func25, Try.ntmps25
    go_wp2
    go_ret
    exact ⟨rfl, rfl⟩
  · rw [if_neg hs]
    go_enter Try.func25, Try.ntmps25
    go_wp2
    go_ret
    exact ⟨rfl, rfl⟩
theorem law_FnArgRd (x : Int) (w : World) (x0 : 0 ≤ x) (x1 : x ≤ 4294967295) : Calls Try.prog 3 #[.int .u32 x] w fun e w' => e = .returned (.bool true) ∧ Below w.heap.size w w' := by
  obtain ⟨v, hv⟩ : ∃ v, v = x % 32 := ⟨_, rfl⟩
  have v0 : 0 ≤ v := by omega
  have v1 : v ≤ 31 := by omega
  have HF : Hid (∀ w, Calls Try.prog 18 #[.int .u32 x, .int .i64 4, .int .i64 0] w fun e w' => e = .returned (.int .i64 v) ∧ Below w.heap.size w w') := hid (fun w => by rw [hv]; exact of_draws (field_4_0 x w x0 x1))
  have HA : Hid (∀ w, Calls Try.prog 16 #[.int .u32 x] w fun e w' => e = .returned (.agg #[.int .i64 1, .int .i64 (v), .int .i64 0]) ∧ Below w.heap.size w w') := hid (fun w => by rw [hv]; exact arg_ArgRd x w x0 x1)
  clear hv
  go_enter Try.func3, Try.ntmps3
  go_wp2_with fail
  refine (abs (HA.out _) w.heap.size w (Below.refl _ _) (Nat.le_refl _)).mono ?_
  rintro e w1 ⟨rfl, hb1, hB1⟩
  go_wp2_with fail
  refine (abs (HF.out _) w.heap.size w hb1 hB1).mono ?_
  rintro e w2 ⟨rfl, hb2, hB2⟩
  go_wp2_with fail
  refine (abs (r_any v _) w.heap.size w hb2 hB2).mono ?_
  rintro e w3 ⟨rfl, hb3, hB3⟩
  go_wp2_with fail
  refine (abs (like_reg 1 v _ (by omega)) w.heap.size w hb3 hB3).mono ?_
  rintro e w4 ⟨rfl, hb4, hB4⟩
  go_wp2
  go_ret
  exact ⟨rfl, hb4⟩
theorem law_FnArgRj (x : Int) (w : World) (x0 : 0 ≤ x) (x1 : x ≤ 4294967295) : Calls Try.prog 4 #[.int .u32 x] w fun e w' => e = .returned (.bool true) ∧ Below w.heap.size w w' := by
  obtain ⟨v, hv⟩ : ∃ v, v = x / 32 % 32 := ⟨_, rfl⟩
  have v0 : 0 ≤ v := by omega
  have v1 : v ≤ 31 := by omega
  have HF : Hid (∀ w, Calls Try.prog 18 #[.int .u32 x, .int .i64 9, .int .i64 5] w fun e w' => e = .returned (.int .i64 v) ∧ Below w.heap.size w w') := hid (fun w => by rw [hv]; exact of_draws (field_9_5 x w x0 x1))
  have HA : Hid (∀ w, Calls Try.prog 19 #[.int .u32 x] w fun e w' => e = .returned (.agg #[.int .i64 1, .int .i64 (v), .int .i64 0]) ∧ Below w.heap.size w w') := hid (fun w => by rw [hv]; exact arg_ArgRj x w x0 x1)
  clear hv
  go_enter Try.func4, Try.ntmps4
  go_wp2_with fail
  refine (abs (HA.out _) w.heap.size w (Below.refl _ _) (Nat.le_refl _)).mono ?_
  rintro e w1 ⟨rfl, hb1, hB1⟩
  go_wp2_with fail
  refine (abs (HF.out _) w.heap.size w hb1 hB1).mono ?_
  rintro e w2 ⟨rfl, hb2, hB2⟩
  go_wp2_with fail
  refine (abs (r_any v _) w.heap.size w hb2 hB2).mono ?_
  rintro e w3 ⟨rfl, hb3, hB3⟩
  go_wp2_with fail
  refine (abs (like_reg 1 v _ (by omega)) w.heap.size w hb3 hB3).mono ?_
  rintro e w4 ⟨rfl, hb4, hB4⟩
  go_wp2
  go_ret
  exact ⟨rfl, hb4⟩
theorem law_FnArgRk (x : Int) (w : World) (x0 : 0 ≤ x) (x1 : x ≤ 4294967295) : Calls Try.prog 5 #[.int .u32 x] w fun e w' => e = .returned (.bool true) ∧ Below w.heap.size w w' := by
  obtain ⟨v, hv⟩ : ∃ v, v = x / 1024 % 32 := ⟨_, rfl⟩
  have v0 : 0 ≤ v := by omega
  have v1 : v ≤ 31 := by omega
  have HF : Hid (∀ w, Calls Try.prog 18 #[.int .u32 x, .int .i64 14, .int .i64 10] w fun e w' => e = .returned (.int .i64 v) ∧ Below w.heap.size w w') := hid (fun w => by rw [hv]; exact of_draws (field_14_10 x w x0 x1))
  have HA : Hid (∀ w, Calls Try.prog 20 #[.int .u32 x] w fun e w' => e = .returned (.agg #[.int .i64 1, .int .i64 (v), .int .i64 0]) ∧ Below w.heap.size w w') := hid (fun w => by rw [hv]; exact arg_ArgRk x w x0 x1)
  clear hv
  go_enter Try.func5, Try.ntmps5
  go_wp2_with fail
  refine (abs (HA.out _) w.heap.size w (Below.refl _ _) (Nat.le_refl _)).mono ?_
  rintro e w1 ⟨rfl, hb1, hB1⟩
  go_wp2_with fail
  refine (abs (HF.out _) w.heap.size w hb1 hB1).mono ?_
  rintro e w2 ⟨rfl, hb2, hB2⟩
  go_wp2_with fail
  refine (abs (r_any v _) w.heap.size w hb2 hB2).mono ?_
  rintro e w3 ⟨rfl, hb3, hB3⟩
  go_wp2_with fail
  refine (abs (like_reg 1 v _ (by omega)) w.heap.size w hb3 hB3).mono ?_
  rintro e w4 ⟨rfl, hb4, hB4⟩
  go_wp2
  go_ret
  exact ⟨rfl, hb4⟩
theorem law_FnArgSa31715 (x : Int) (w : World) (x0 : 0 ≤ x) (x1 : x ≤ 4294967295) : Calls Try.prog 6 #[.int .u32 x] w fun e w' => e = .returned (.bool true) ∧ Below w.heap.size w w' := by
  obtain ⟨v, hv⟩ : ∃ v, v = x / 32768 % 8 := ⟨_, rfl⟩
  have v0 : 0 ≤ v := by omega
  have v1 : v ≤ 7 := by omega
  have HF : Hid (∀ w, Calls Try.prog 18 #[.int .u32 x, .int .i64 17, .int .i64 15] w fun e w' => e = .returned (.int .i64 v) ∧ Below w.heap.size w w') := hid (fun w => by rw [hv]; exact of_draws (field_17_15 x w x0 x1))
  have HA : Hid (∀ w, Calls Try.prog 21 #[.int .u32 x] w fun e w' => e = .returned (.agg #[.int .i64 8, .int .i64 0, .int .i64 (v)]) ∧ Below w.heap.size w w') := hid (fun w => by rw [hv]; exact arg_ArgSa31715 x w x0 x1)
  clear hv
  go_enter Try.func6, Try.ntmps6
  go_wp2_with fail
  refine (abs (HA.out _) w.heap.size w (Below.refl _ _) (Nat.le_refl _)).mono ?_
  rintro e w1 ⟨rfl, hb1, hB1⟩
  go_wp2_with fail
  refine (abs (HF.out _) w.heap.size w hb1 hB1).mono ?_
  rintro e w2 ⟨rfl, hb2, hB2⟩
  go_wp2_with fail
  refine (abs (n_any v _) w.heap.size w hb2 hB2).mono ?_
  rintro e w3 ⟨rfl, hb3, hB3⟩
  go_wp2_with fail
  refine (abs (like_num 8 v _ (by omega) (by omega)) w.heap.size w hb3 hB3).mono ?_
  rintro e w4 ⟨rfl, hb4, hB4⟩
  go_wp2
  go_ret
  exact ⟨rfl, hb4⟩
theorem law_FnArgSeq1710 (x : Int) (w : World) (x0 : 0 ≤ x) (x1 : x ≤ 4294967295) : Calls Try.prog 7 #[.int .u32 x] w fun e w' => e = .returned (.bool true) ∧ Below w.heap.size w w' := by
  obtain ⟨v, hv⟩ : ∃ v, v = x / 1024 % 256 := ⟨_, rfl⟩
  have v0 : 0 ≤ v := by omega
  have v1 : v ≤ 255 := by omega
  have HF : Hid (∀ w, Calls Try.prog 18 #[.int .u32 x, .int .i64 17, .int .i64 10] w fun e w' => e = .returned (.int .i64 v) ∧ Below w.heap.size w w') := hid (fun w => by rw [hv]; exact of_draws (field_17_10 x w x0 x1))
  have HA : Hid (∀ w, Calls Try.prog 23 #[.int .u32 x] w fun e w' => e = .returned (.agg #[.int .i64 5, .int .i64 0, .int .i64 (v)]) ∧ Below w.heap.size w w') := hid (fun w => by rw [hv]; exact arg_ArgSeq1710 x w x0 x1)
  clear hv
  go_enter Try.func7, Try.ntmps7
  go_wp2_with fail
  refine (abs (HA.out _) w.heap.size w (Below.refl _ _) (Nat.le_refl _)).mono ?_
  rintro e w1 ⟨rfl, hb1, hB1⟩
  go_wp2_with fail
  refine (abs (HF.out _) w.heap.size w hb1 hB1).mono ?_
  rintro e w2 ⟨rfl, hb2, hB2⟩
  go_wp2_with fail
  refine (abs (n_any v _) w.heap.size w hb2 hB2).mono ?_
  rintro e w3 ⟨rfl, hb3, hB3⟩
  go_wp2_with fail
  refine (abs (like_num 5 v _ (by omega) (by omega)) w.heap.size w hb3 hB3).mono ?_
  rintro e w4 ⟨rfl, hb4, hB4⟩
  go_wp2
  go_ret
  exact ⟨rfl, hb4⟩
theorem law_FnArgSi122110 (x : Int) (w : World) (x0 : 0 ≤ x) (x1 : x ≤ 4294967295) : Calls Try.prog 8 #[.int .u32 x] w fun e w' => e = .returned (.bool true) ∧ Below w.heap.size w w' := by
  obtain ⟨v, hv⟩ : ∃ v, v = x / 1024 % 4096 := ⟨_, rfl⟩
  have v0 : 0 ≤ v := by omega
  have v1 : v ≤ 4095 := by omega
  have HF : Hid (∀ w, Calls Try.prog 18 #[.int .u32 x, .int .i64 21, .int .i64 10] w fun e w' => e = .returned (.int .i64 v) ∧ Below w.heap.size w w') := hid (fun w => by rw [hv]; exact of_draws (field_21_10 x w x0 x1))
  have HA : Hid (∀ w, Calls Try.prog 24 #[.int .u32 x] w fun e w' => e = .returned (.agg #[.int .i64 4, .int .i64 0, .int .i64 (sg 2048 v)]) ∧ Below w.heap.size w w') := hid (fun w => by rw [hv]; exact arg_ArgSi122110 x w x0 x1)
  have HS : Hid (∀ w, Calls Try.prog 25 #[.int .i64 v, .int .i64 12] w fun e w' => e = .returned (.int .i64 (sg 2048 v)) ∧ Below w.heap.size w w') := hid (fun w => of_same (signed_12 v w (by omega) (by omega)))
  clear hv
  go_enter Try.func8, Try.ntmps8
  go_wp2_with fail
  refine (abs (HA.out _) w.heap.size w (Below.refl _ _) (Nat.le_refl _)).mono ?_
  rintro e w1 ⟨rfl, hb1, hB1⟩
  go_wp2_with fail
  refine (abs (HF.out _) w.heap.size w hb1 hB1).mono ?_
  rintro e w2 ⟨rfl, hb2, hB2⟩
  go_wp2_with fail
  refine (abs (HS.out _) w.heap.size w hb2 hB2).mono ?_
  rintro e w3 ⟨rfl, hb3, hB3⟩
  go_wp2_with fail
  refine (abs (n_any (sg 2048 v) _) w.heap.size w hb3 hB3).mono ?_
  rintro e w4 ⟨rfl, hb4, hB4⟩
  go_wp2_with fail
  refine (abs (like_num 4 (sg 2048 v) _ (by omega) (by omega)) w.heap.size w hb4 hB4).mono ?_
  rintro e w5 ⟨rfl, hb5, hB5⟩
  go_wp2
  go_ret
  exact ⟨rfl, hb5⟩
theorem law_FnArgSi142310 (x : Int) (w : World) (x0 : 0 ≤ x) (x1 : x ≤ 4294967295) : Calls Try.prog 9 #[.int .u32 x] w fun e w' => e = .returned (.bool true) ∧ Below w.heap.size w w' := by
  obtain ⟨v, hv⟩ : ∃ v, v = x / 1024 % 16384 := ⟨_, rfl⟩
  have v0 : 0 ≤ v := by omega
  have v1 : v ≤ 16383 := by omega
  have HF : Hid (∀ w, Calls Try.prog 18 #[.int .u32 x, .int .i64 23, .int .i64 10] w fun e w' => e = .returned (.int .i64 v) ∧ Below w.heap.size w w') := hid (fun w => by rw [hv]; exact of_draws (field_23_10 x w x0 x1))
  have HA : Hid (∀ w, Calls Try.prog 27 #[.int .u32 x] w fun e w' => e = .returned (.agg #[.int .i64 4, .int .i64 0, .int .i64 (4 * sg 8192 v)]) ∧ Below w.heap.size w w') := hid (fun w => by rw [hv]; exact arg_ArgSi142310 x w x0 x1)
  have s0 : -8192 ≤ sg 8192 v := by unfold sg; split <;> omega
  have s1 : sg 8192 v < 8192 := by unfold sg; split <;> omega
  have HS : Hid (∀ w, Calls Try.prog 25 #[.int .i64 v, .int .i64 14] w fun e w' => e = .returned (.int .i64 (sg 8192 v)) ∧ Below w.heap.size w w') := hid (fun w => of_same (signed_14 v w (by omega) (by omega)))
  clear hv
  go_enter Try.func9, Try.ntmps9
  go_wp2_with fail
  refine (abs (HA.out _) w.heap.size w (Below.refl _ _) (Nat.le_refl _)).mono ?_
  rintro e w1 ⟨rfl, hb1, hB1⟩
  go_wp2_with fail
  refine (abs (HF.out _) w.heap.size w hb1 hB1).mono ?_
  rintro e w2 ⟨rfl, hb2, hB2⟩
  go_wp2_with fail
  refine (abs (HS.out _) w.heap.size w hb2 hB2).mono ?_
  rintro e w3 ⟨rfl, hb3, hB3⟩
  go_wp2_with fail
  refine (abs (far_any 4 (sg 8192 v) _ (by omega) (by omega) (by omega) (by omega)) w.heap.size w hb3 hB3).mono ?_
  rintro e w4 ⟨rfl, hb4, hB4⟩
  go_wp2
  go_ret
  exact ⟨rfl, hb4⟩
theorem law_FnArgSi162510 (x : Int) (w : World) (x0 : 0 ≤ x) (x1 : x ≤ 4294967295) : Calls Try.prog 10 #[.int .u32 x] w fun e w' => e = .returned (.bool true) ∧ Below w.heap.size w w' := by
  obtain ⟨v, hv⟩ : ∃ v, v = x / 1024 % 65536 := ⟨_, rfl⟩
  have v0 : 0 ≤ v := by omega
  have v1 : v ≤ 65535 := by omega
  have HF : Hid (∀ w, Calls Try.prog 18 #[.int .u32 x, .int .i64 25, .int .i64 10] w fun e w' => e = .returned (.int .i64 v) ∧ Below w.heap.size w w') := hid (fun w => by rw [hv]; exact of_draws (field_25_10 x w x0 x1))
  have HA : Hid (∀ w, Calls Try.prog 28 #[.int .u32 x] w fun e w' => e = .returned (.agg #[.int .i64 4, .int .i64 0, .int .i64 (sg 32768 v)]) ∧ Below w.heap.size w w') := hid (fun w => by rw [hv]; exact arg_ArgSi162510 x w x0 x1)
  have HS : Hid (∀ w, Calls Try.prog 25 #[.int .i64 v, .int .i64 16] w fun e w' => e = .returned (.int .i64 (sg 32768 v)) ∧ Below w.heap.size w w') := hid (fun w => of_same (signed_16 v w (by omega) (by omega)))
  clear hv
  go_enter Try.func10, Try.ntmps10
  go_wp2_with fail
  refine (abs (HA.out _) w.heap.size w (Below.refl _ _) (Nat.le_refl _)).mono ?_
  rintro e w1 ⟨rfl, hb1, hB1⟩
  go_wp2_with fail
  refine (abs (HF.out _) w.heap.size w hb1 hB1).mono ?_
  rintro e w2 ⟨rfl, hb2, hB2⟩
  go_wp2_with fail
  refine (abs (HS.out _) w.heap.size w hb2 hB2).mono ?_
  rintro e w3 ⟨rfl, hb3, hB3⟩
  go_wp2_with fail
  refine (abs (n_any (sg 32768 v) _) w.heap.size w hb3 hB3).mono ?_
  rintro e w4 ⟨rfl, hb4, hB4⟩
  go_wp2_with fail
  refine (abs (like_num 4 (sg 32768 v) _ (by omega) (by omega)) w.heap.size w hb4 hB4).mono ?_
  rintro e w5 ⟨rfl, hb5, hB5⟩
  go_wp2
  go_ret
  exact ⟨rfl, hb5⟩
theorem law_FnArgSi20245 (x : Int) (w : World) (x0 : 0 ≤ x) (x1 : x ≤ 4294967295) : Calls Try.prog 11 #[.int .u32 x] w fun e w' => e = .returned (.bool true) ∧ Below w.heap.size w w' := by
  obtain ⟨v, hv⟩ : ∃ v, v = x / 32 % 1048576 := ⟨_, rfl⟩
  have v0 : 0 ≤ v := by omega
  have v1 : v ≤ 1048575 := by omega
  have HF : Hid (∀ w, Calls Try.prog 18 #[.int .u32 x, .int .i64 24, .int .i64 5] w fun e w' => e = .returned (.int .i64 v) ∧ Below w.heap.size w w') := hid (fun w => by rw [hv]; exact of_draws (field_24_5 x w x0 x1))
  have HA : Hid (∀ w, Calls Try.prog 29 #[.int .u32 x] w fun e w' => e = .returned (.agg #[.int .i64 4, .int .i64 0, .int .i64 (sg 524288 v)]) ∧ Below w.heap.size w w') := hid (fun w => by rw [hv]; exact arg_ArgSi20245 x w x0 x1)
  have HS : Hid (∀ w, Calls Try.prog 25 #[.int .i64 v, .int .i64 20] w fun e w' => e = .returned (.int .i64 (sg 524288 v)) ∧ Below w.heap.size w w') := hid (fun w => of_same (signed_20 v w (by omega) (by omega)))
  clear hv
  go_enter Try.func11, Try.ntmps11
  go_wp2_with fail
  refine (abs (HA.out _) w.heap.size w (Below.refl _ _) (Nat.le_refl _)).mono ?_
  rintro e w1 ⟨rfl, hb1, hB1⟩
  go_wp2_with fail
  refine (abs (HF.out _) w.heap.size w hb1 hB1).mono ?_
  rintro e w2 ⟨rfl, hb2, hB2⟩
  go_wp2_with fail
  refine (abs (HS.out _) w.heap.size w hb2 hB2).mono ?_
  rintro e w3 ⟨rfl, hb3, hB3⟩
  go_wp2_with fail
  refine (abs (n_any (sg 524288 v) _) w.heap.size w hb3 hB3).mono ?_
  rintro e w4 ⟨rfl, hb4, hB4⟩
  go_wp2_with fail
  refine (abs (like_num 4 (sg 524288 v) _ (by omega) (by omega)) w.heap.size w hb4 hB4).mono ?_
  rintro e w5 ⟨rfl, hb5, hB5⟩
  go_wp2
  go_ret
  exact ⟨rfl, hb5⟩
theorem law_FnArgUi122110 (x : Int) (w : World) (x0 : 0 ≤ x) (x1 : x ≤ 4294967295) : Calls Try.prog 12 #[.int .u32 x] w fun e w' => e = .returned (.bool true) ∧ Below w.heap.size w w' := by
  obtain ⟨v, hv⟩ : ∃ v, v = x / 1024 % 4096 := ⟨_, rfl⟩
  have v0 : 0 ≤ v := by omega
  have v1 : v ≤ 4095 := by omega
  have HF : Hid (∀ w, Calls Try.prog 18 #[.int .u32 x, .int .i64 21, .int .i64 10] w fun e w' => e = .returned (.int .i64 v) ∧ Below w.heap.size w w') := hid (fun w => by rw [hv]; exact of_draws (field_21_10 x w x0 x1))
  have HA : Hid (∀ w, Calls Try.prog 30 #[.int .u32 x] w fun e w' => e = .returned (.agg #[.int .i64 5, .int .i64 0, .int .i64 (v)]) ∧ Below w.heap.size w w') := hid (fun w => by rw [hv]; exact arg_ArgUi122110 x w x0 x1)
  clear hv
  go_enter Try.func12, Try.ntmps12
  go_wp2_with fail
  refine (abs (HA.out _) w.heap.size w (Below.refl _ _) (Nat.le_refl _)).mono ?_
  rintro e w1 ⟨rfl, hb1, hB1⟩
  go_wp2_with fail
  refine (abs (HF.out _) w.heap.size w hb1 hB1).mono ?_
  rintro e w2 ⟨rfl, hb2, hB2⟩
  go_wp2_with fail
  refine (abs (n_any v _) w.heap.size w hb2 hB2).mono ?_
  rintro e w3 ⟨rfl, hb3, hB3⟩
  go_wp2_with fail
  refine (abs (like_num 5 v _ (by omega) (by omega)) w.heap.size w hb3 hB3).mono ?_
  rintro e w4 ⟨rfl, hb4, hB4⟩
  go_wp2
  go_ret
  exact ⟨rfl, hb4⟩
theorem law_FnArgUi51410 (x : Int) (w : World) (x0 : 0 ≤ x) (x1 : x ≤ 4294967295) : Calls Try.prog 13 #[.int .u32 x] w fun e w' => e = .returned (.bool true) ∧ Below w.heap.size w w' := by
  obtain ⟨v, hv⟩ : ∃ v, v = x / 1024 % 32 := ⟨_, rfl⟩
  have v0 : 0 ≤ v := by omega
  have v1 : v ≤ 31 := by omega
  have HF : Hid (∀ w, Calls Try.prog 18 #[.int .u32 x, .int .i64 14, .int .i64 10] w fun e w' => e = .returned (.int .i64 v) ∧ Below w.heap.size w w') := hid (fun w => by rw [hv]; exact of_draws (field_14_10 x w x0 x1))
  have HA : Hid (∀ w, Calls Try.prog 31 #[.int .u32 x] w fun e w' => e = .returned (.agg #[.int .i64 5, .int .i64 0, .int .i64 (v)]) ∧ Below w.heap.size w w') := hid (fun w => by rw [hv]; exact arg_ArgUi51410 x w x0 x1)
  clear hv
  go_enter Try.func13, Try.ntmps13
  go_wp2_with fail
  refine (abs (HA.out _) w.heap.size w (Below.refl _ _) (Nat.le_refl _)).mono ?_
  rintro e w1 ⟨rfl, hb1, hB1⟩
  go_wp2_with fail
  refine (abs (HF.out _) w.heap.size w hb1 hB1).mono ?_
  rintro e w2 ⟨rfl, hb2, hB2⟩
  go_wp2_with fail
  refine (abs (n_any v _) w.heap.size w hb2 hB2).mono ?_
  rintro e w3 ⟨rfl, hb3, hB3⟩
  go_wp2_with fail
  refine (abs (like_num 5 v _ (by omega) (by omega)) w.heap.size w hb3 hB3).mono ?_
  rintro e w4 ⟨rfl, hb4, hB4⟩
  go_wp2
  go_ret
  exact ⟨rfl, hb4⟩
theorem law_FnArgUi61510 (x : Int) (w : World) (x0 : 0 ≤ x) (x1 : x ≤ 4294967295) : Calls Try.prog 14 #[.int .u32 x] w fun e w' => e = .returned (.bool true) ∧ Below w.heap.size w w' := by
  obtain ⟨v, hv⟩ : ∃ v, v = x / 1024 % 64 := ⟨_, rfl⟩
  have v0 : 0 ≤ v := by omega
  have v1 : v ≤ 63 := by omega
  have HF : Hid (∀ w, Calls Try.prog 18 #[.int .u32 x, .int .i64 15, .int .i64 10] w fun e w' => e = .returned (.int .i64 v) ∧ Below w.heap.size w w') := hid (fun w => by rw [hv]; exact of_draws (field_15_10 x w x0 x1))
  have HA : Hid (∀ w, Calls Try.prog 32 #[.int .u32 x] w fun e w' => e = .returned (.agg #[.int .i64 5, .int .i64 0, .int .i64 (v)]) ∧ Below w.heap.size w w') := hid (fun w => by rw [hv]; exact arg_ArgUi61510 x w x0 x1)
  clear hv
  go_enter Try.func14, Try.ntmps14
  go_wp2_with fail
  refine (abs (HA.out _) w.heap.size w (Below.refl _ _) (Nat.le_refl _)).mono ?_
  rintro e w1 ⟨rfl, hb1, hB1⟩
  go_wp2_with fail
  refine (abs (HF.out _) w.heap.size w hb1 hB1).mono ?_
  rintro e w2 ⟨rfl, hb2, hB2⟩
  go_wp2_with fail
  refine (abs (n_any v _) w.heap.size w hb2 hB2).mono ?_
  rintro e w3 ⟨rfl, hb3, hB3⟩
  go_wp2_with fail
  refine (abs (like_num 5 v _ (by omega) (by omega)) w.heap.size w hb3 hB3).mono ?_
  rintro e w4 ⟨rfl, hb4, hB4⟩
  go_wp2
  go_ret
  exact ⟨rfl, hb4⟩
end Go.Proofs.Ytfbdgpopkkmkjac.Arg
