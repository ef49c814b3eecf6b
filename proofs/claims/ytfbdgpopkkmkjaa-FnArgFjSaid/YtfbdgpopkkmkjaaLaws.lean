/- The walks of the laws, each over the thin package's and the reference's contracts. -/
import Derived.Test.YtfbdgpopkkmkjaaArg
namespace Go.Proofs.Ytfbdgpopkkmkjaa.Arg
open Go.RowKit
theorem abs {f : FuncId} {args : Array Value} {w : World} {v : Value} (h : Calls Try.prog f args w fun e w' => e = .returned v ∧ Below w.heap.size w w') (B : Nat) (w0 : World) (hb : Below B w0 w) (hB : B ≤ w.heap.size) :
    Calls Try.prog f args w fun e w' => e = .returned v ∧ Below B w0 w' ∧ B ≤ w'.heap.size :=
  h.mono fun _ _ ⟨he, hx⟩ => ⟨he, hb.trans (hx.mono hB), Nat.le_trans hB hx.size⟩
theorem of_draws {f : FuncId} {args : Array Value} {w : World} {v : Value} (h : Calls Try.prog f args w fun e w' => e = .returned v ∧ ∃ n, w' = w.drewN n) :
    Calls Try.prog f args w fun e w' => e = .returned v ∧ Below w.heap.size w w' :=
  h.mono fun _ _ ⟨he, n, hn⟩ => ⟨he, by rw [hn]; exact bel_drewN (Below.refl _ _) n⟩
theorem of_same {f : FuncId} {args : Array Value} {w : World} {v : Value} (h : Calls Try.prog f args w fun e w' => e = .returned v ∧ w' = w) :
    Calls Try.prog f args w fun e w' => e = .returned v ∧ Below w.heap.size w w' :=
  h.mono fun _ _ ⟨he, hn⟩ => ⟨he, by rw [hn]; exact Below.refl _ _⟩
theorem n_any (v : Int) (w : World)  : Calls Try.prog 21 #[.int .i64 v] w fun e w' => e = .returned (.agg #[.int .i64 4, .int .i64 0, .int .i64 v]) ∧ Below w.heap.size w w' := by
  go_enter Try.func21, Try.ntmps21
  go_wp2
  exact bodyPost_ret (v := .agg #[.int .i64 4, .int .i64 0, .int .i64 v]) (by simp [results, Try.results21, go_sem]) rfl ⟨rfl, by repeat (first | exact Below.refl _ _ | (refine Below.alloc ?_ (by simp; try omega) _))⟩
theorem f_any (v : Int) (w : World) (h0 : 0 ≤ v) (h1 : v ≤ 31) : Calls Try.prog 25 #[.int .i64 v] w fun e w' => e = .returned (.agg #[.int .i64 1, .int .i64 (32 + v), .int .i64 0]) ∧ Below w.heap.size w w' := by
  go_enter Try.func25, Try.ntmps25
  go_wp2
  exact bodyPost_ret (v := .agg #[.int .i64 1, .int .i64 (32 + v), .int .i64 0]) (by simp [results, Try.results25, go_sem]) rfl ⟨rfl, by repeat (first | exact Below.refl _ _ | (refine Below.alloc ?_ (by simp; try omega) _))⟩
theorem like_reg (k r : Int) (w : World) (hk : k < 4) : Calls Try.prog 15 #[.agg #[.int .i64 k, .int .i64 r, .int .i64 0], .agg #[.int .i64 k, .int .i64 r, .int .i64 0]] w fun e w' => e = .returned (.bool true) ∧ Below w.heap.size w w' := by
  go_enter Try.func15, Try.ntmps15
  go_wp2
  go_ret
  exact ⟨rfl, by repeat (first | exact Below.refl _ _ | (refine Below.alloc ?_ (by simp; try omega) _))⟩
theorem like_num (k n : Int) (w : World) (hk : 4 ≤ k) (hk2 : k ≤ 8) : Calls Try.prog 15 #[.agg #[.int .i64 k, .int .i64 0, .int .i64 n], .agg #[.int .i64 4, .int .i64 0, .int .i64 n]] w fun e w' => e = .returned (.bool true) ∧ Below w.heap.size w w' := by
  go_enter Try.func15, Try.ntmps15
  go_wp2
  go_ret
  exact ⟨rfl, by repeat (first | exact Below.refl _ _ | (refine Below.alloc ?_ (by simp; try omega) _))⟩
theorem law_FnArgCa (x : Int) (w : World) (x0 : 0 ≤ x) (x1 : x ≤ 4294967295) : Calls Try.prog 3 #[.int .u32 x] w fun e w' => e = .returned (.bool true) ∧ Below w.heap.size w w' := by
  obtain ⟨v, hv⟩ : ∃ v, v = x / 32768 % 8 := ⟨_, rfl⟩
  have v0 : 0 ≤ v := by omega
  have v1 : v ≤ 7 := by omega
  have HF : Hid (∀ w, Calls Try.prog 17 #[.int .u32 x, .int .i64 17, .int .i64 15] w fun e w' => e = .returned (.int .i64 v) ∧ Below w.heap.size w w') := hid (fun w => by rw [hv]; exact of_draws (field_17_15 x w x0 x1))
  have HA : Hid (∀ w, Calls Try.prog 16 #[.int .u32 x] w fun e w' => e = .returned (.agg #[.int .i64 2, .int .i64 (v), .int .i64 0]) ∧ Below w.heap.size w w') := hid (fun w => by rw [hv]; exact arg_ArgCa x w x0 x1)
  clear hv
  go_enter Try.func3, Try.ntmps3
  go_wp2_with fail
  refine (abs (HA.out _) w.heap.size w (Below.refl _ _) (Nat.le_refl _)).mono ?_
  rintro e w1 ⟨rfl, hb1, hB1⟩
  go_wp2_with fail
  refine (abs (HF.out _) w.heap.size w hb1 hB1).mono ?_
  rintro e w2 ⟨rfl, hb2, hB2⟩
  go_wp2_with fail
  refine (abs (like_reg 2 v _ (by omega)) w.heap.size w hb2 hB2).mono ?_
  rintro e w3 ⟨rfl, hb3, hB3⟩
  go_wp2
  go_ret
  exact ⟨rfl, hb3⟩
theorem law_FnArgCd (x : Int) (w : World) (x0 : 0 ≤ x) (x1 : x ≤ 4294967295) : Calls Try.prog 4 #[.int .u32 x] w fun e w' => e = .returned (.bool true) ∧ Below w.heap.size w w' := by
  obtain ⟨v, hv⟩ : ∃ v, v = x % 8 := ⟨_, rfl⟩
  have v0 : 0 ≤ v := by omega
  have v1 : v ≤ 7 := by omega
  have HF : Hid (∀ w, Calls Try.prog 17 #[.int .u32 x, .int .i64 2, .int .i64 0] w fun e w' => e = .returned (.int .i64 v) ∧ Below w.heap.size w w') := hid (fun w => by rw [hv]; exact of_draws (field_2_0 x w x0 x1))
  have HA : Hid (∀ w, Calls Try.prog 18 #[.int .u32 x] w fun e w' => e = .returned (.agg #[.int .i64 2, .int .i64 (v), .int .i64 0]) ∧ Below w.heap.size w w') := hid (fun w => by rw [hv]; exact arg_ArgCd x w x0 x1)
  clear hv
  go_enter Try.func4, Try.ntmps4
  go_wp2_with fail
  refine (abs (HA.out _) w.heap.size w (Below.refl _ _) (Nat.le_refl _)).mono ?_
  rintro e w1 ⟨rfl, hb1, hB1⟩
  go_wp2_with fail
  refine (abs (HF.out _) w.heap.size w hb1 hB1).mono ?_
  rintro e w2 ⟨rfl, hb2, hB2⟩
  go_wp2_with fail
  refine (abs (like_reg 2 v _ (by omega)) w.heap.size w hb2 hB2).mono ?_
  rintro e w3 ⟨rfl, hb3, hB3⟩
  go_wp2
  go_ret
  exact ⟨rfl, hb3⟩
theorem law_FnArgCj (x : Int) (w : World) (x0 : 0 ≤ x) (x1 : x ≤ 4294967295) : Calls Try.prog 5 #[.int .u32 x] w fun e w' => e = .returned (.bool true) ∧ Below w.heap.size w w' := by
  obtain ⟨v, hv⟩ : ∃ v, v = x / 32 % 8 := ⟨_, rfl⟩
  have v0 : 0 ≤ v := by omega
  have v1 : v ≤ 7 := by omega
  have HF : Hid (∀ w, Calls Try.prog 17 #[.int .u32 x, .int .i64 7, .int .i64 5] w fun e w' => e = .returned (.int .i64 v) ∧ Below w.heap.size w w') := hid (fun w => by rw [hv]; exact of_draws (field_7_5 x w x0 x1))
  have HA : Hid (∀ w, Calls Try.prog 19 #[.int .u32 x] w fun e w' => e = .returned (.agg #[.int .i64 2, .int .i64 (v), .int .i64 0]) ∧ Below w.heap.size w w') := hid (fun w => by rw [hv]; exact arg_ArgCj x w x0 x1)
  clear hv
  go_enter Try.func5, Try.ntmps5
  go_wp2_with fail
  refine (abs (HA.out _) w.heap.size w (Below.refl _ _) (Nat.le_refl _)).mono ?_
  rintro e w1 ⟨rfl, hb1, hB1⟩
  go_wp2_with fail
  refine (abs (HF.out _) w.heap.size w hb1 hB1).mono ?_
  rintro e w2 ⟨rfl, hb2, hB2⟩
  go_wp2_with fail
  refine (abs (like_reg 2 v _ (by omega)) w.heap.size w hb2 hB2).mono ?_
  rintro e w3 ⟨rfl, hb3, hB3⟩
  go_wp2
  go_ret
  exact ⟨rfl, hb3⟩
theorem law_FnArgCode140 (x : Int) (w : World) (x0 : 0 ≤ x) (x1 : x ≤ 4294967295) : Calls Try.prog 6 #[.int .u32 x] w fun e w' => e = .returned (.bool true) ∧ Below w.heap.size w w' := by
  obtain ⟨v, hv⟩ : ∃ v, v = x % 32768 := ⟨_, rfl⟩
  have v0 : 0 ≤ v := by omega
  have v1 : v ≤ 32767 := by omega
  have HF : Hid (∀ w, Calls Try.prog 17 #[.int .u32 x, .int .i64 14, .int .i64 0] w fun e w' => e = .returned (.int .i64 v) ∧ Below w.heap.size w w') := hid (fun w => by rw [hv]; exact of_draws (field_14_0 x w x0 x1))
  have HA : Hid (∀ w, Calls Try.prog 20 #[.int .u32 x] w fun e w' => e = .returned (.agg #[.int .i64 7, .int .i64 0, .int .i64 (v)]) ∧ Below w.heap.size w w') := hid (fun w => by rw [hv]; exact arg_ArgCode140 x w x0 x1)
  clear hv
  go_enter Try.func6, Try.ntmps6
  go_wp2_with fail
  refine (abs (HA.out _) w.heap.size w (Below.refl _ _) (Nat.le_refl _)).mono ?_
  rintro e w1 ⟨rfl, hb1, hB1⟩
  go_wp2_with fail
  refine (abs (HF.out _) w.heap.size w hb1 hB1).mono ?_
  rintro e w2 ⟨rfl, hb2, hB2⟩
  go_wp2_with fail
  refine (abs (n_any v _) w.heap.size w hb2 hB2).mono ?_
  rintro e w3 ⟨rfl, hb3, hB3⟩
  go_wp2_with fail
  refine (abs (like_num 7 v _ (by omega) (by omega)) w.heap.size w hb3 hB3).mono ?_
  rintro e w4 ⟨rfl, hb4, hB4⟩
  go_wp2
  go_ret
  exact ⟨rfl, hb4⟩
theorem law_FnArgCode40 (x : Int) (w : World) (x0 : 0 ≤ x) (x1 : x ≤ 4294967295) : Calls Try.prog 7 #[.int .u32 x] w fun e w' => e = .returned (.bool true) ∧ Below w.heap.size w w' := by
  obtain ⟨v, hv⟩ : ∃ v, v = x % 32 := ⟨_, rfl⟩
  have v0 : 0 ≤ v := by omega
  have v1 : v ≤ 31 := by omega
  have HF : Hid (∀ w, Calls Try.prog 17 #[.int .u32 x, .int .i64 4, .int .i64 0] w fun e w' => e = .returned (.int .i64 v) ∧ Below w.heap.size w w') := hid (fun w => by rw [hv]; exact of_draws (field_4_0 x w x0 x1))
  have HA : Hid (∀ w, Calls Try.prog 22 #[.int .u32 x] w fun e w' => e = .returned (.agg #[.int .i64 7, .int .i64 0, .int .i64 (v)]) ∧ Below w.heap.size w w') := hid (fun w => by rw [hv]; exact arg_ArgCode40 x w x0 x1)
  clear hv
  go_enter Try.func7, Try.ntmps7
  go_wp2_with fail
  refine (abs (HA.out _) w.heap.size w (Below.refl _ _) (Nat.le_refl _)).mono ?_
  rintro e w1 ⟨rfl, hb1, hB1⟩
  go_wp2_with fail
  refine (abs (HF.out _) w.heap.size w hb1 hB1).mono ?_
  rintro e w2 ⟨rfl, hb2, hB2⟩
  go_wp2_with fail
  refine (abs (n_any v _) w.heap.size w hb2 hB2).mono ?_
  rintro e w3 ⟨rfl, hb3, hB3⟩
  go_wp2_with fail
  refine (abs (like_num 7 v _ (by omega) (by omega)) w.heap.size w hb3 hB3).mono ?_
  rintro e w4 ⟨rfl, hb4, hB4⟩
  go_wp2
  go_ret
  exact ⟨rfl, hb4⟩
theorem law_FnArgCsr2310 (x : Int) (w : World) (x0 : 0 ≤ x) (x1 : x ≤ 4294967295) : Calls Try.prog 8 #[.int .u32 x] w fun e w' => e = .returned (.bool true) ∧ Below w.heap.size w w' := by
  obtain ⟨v, hv⟩ : ∃ v, v = x / 1024 % 16384 := ⟨_, rfl⟩
  have v0 : 0 ≤ v := by omega
  have v1 : v ≤ 16383 := by omega
  have HF : Hid (∀ w, Calls Try.prog 17 #[.int .u32 x, .int .i64 23, .int .i64 10] w fun e w' => e = .returned (.int .i64 v) ∧ Below w.heap.size w w') := hid (fun w => by rw [hv]; exact of_draws (field_23_10 x w x0 x1))
  have HA : Hid (∀ w, Calls Try.prog 23 #[.int .u32 x] w fun e w' => e = .returned (.agg #[.int .i64 5, .int .i64 0, .int .i64 (v)]) ∧ Below w.heap.size w w') := hid (fun w => by rw [hv]; exact arg_ArgCsr2310 x w x0 x1)
  clear hv
  go_enter Try.func8, Try.ntmps8
  go_wp2_with fail
  refine (abs (HA.out _) w.heap.size w (Below.refl _ _) (Nat.le_refl _)).mono ?_
  rintro e w1 ⟨rfl, hb1, hB1⟩
  go_wp2_with fail
  refine (abs (HF.out _) w.heap.size w hb1 hB1).mono ?_
  rintro e w2 ⟨rfl, hb2, hB2⟩
  go_wp2_with fail
  refine (abs (n_any v _) w.heap.size w hb2 hB2).mono ?_
  rintro e w3 ⟨rfl, hb3, hB3⟩
  go_wp2_with fail
  refine (abs (like_num 5 v _ (by omega) (by omega)) w.heap.size w hb3 hB3).mono ?_
  rintro e w4 ⟨rfl, hb4, hB4⟩
  go_wp2
  go_ret
  exact ⟨rfl, hb4⟩
theorem law_FnArgFa (x : Int) (w : World) (x0 : 0 ≤ x) (x1 : x ≤ 4294967295) : Calls Try.prog 9 #[.int .u32 x] w fun e w' => e = .returned (.bool true) ∧ Below w.heap.size w w' := by
  obtain ⟨v, hv⟩ : ∃ v, v = x / 32768 % 32 := ⟨_, rfl⟩
  have v0 : 0 ≤ v := by omega
  have v1 : v ≤ 31 := by omega
  have HF : Hid (∀ w, Calls Try.prog 17 #[.int .u32 x, .int .i64 19, .int .i64 15] w fun e w' => e = .returned (.int .i64 v) ∧ Below w.heap.size w w') := hid (fun w => by rw [hv]; exact of_draws (field_19_15 x w x0 x1))
  have HA : Hid (∀ w, Calls Try.prog 24 #[.int .u32 x] w fun e w' => e = .returned (.agg #[.int .i64 1, .int .i64 (32 + v), .int .i64 0]) ∧ Below w.heap.size w w') := hid (fun w => by rw [hv]; exact arg_ArgFa x w x0 x1)
  clear hv
  go_enter Try.func9, Try.ntmps9
  go_wp2_with fail
  refine (abs (HA.out _) w.heap.size w (Below.refl _ _) (Nat.le_refl _)).mono ?_
  rintro e w1 ⟨rfl, hb1, hB1⟩
  go_wp2_with fail
  refine (abs (HF.out _) w.heap.size w hb1 hB1).mono ?_
  rintro e w2 ⟨rfl, hb2, hB2⟩
  go_wp2_with fail
  refine (abs (f_any v _ (by omega) (by omega)) w.heap.size w hb2 hB2).mono ?_
  rintro e w3 ⟨rfl, hb3, hB3⟩
  go_wp2_with fail
  refine (abs (like_reg 1 (32 + v) _ (by omega)) w.heap.size w hb3 hB3).mono ?_
  rintro e w4 ⟨rfl, hb4, hB4⟩
  go_wp2
  go_ret
  exact ⟨rfl, hb4⟩
theorem law_FnArgFcsr40 (x : Int) (w : World) (x0 : 0 ≤ x) (x1 : x ≤ 4294967295) : Calls Try.prog 10 #[.int .u32 x] w fun e w' => e = .returned (.bool true) ∧ Below w.heap.size w w' := by
  obtain ⟨v, hv⟩ : ∃ v, v = x % 32 := ⟨_, rfl⟩
  have v0 : 0 ≤ v := by omega
  have v1 : v ≤ 31 := by omega
  have HF : Hid (∀ w, Calls Try.prog 17 #[.int .u32 x, .int .i64 4, .int .i64 0] w fun e w' => e = .returned (.int .i64 v) ∧ Below w.heap.size w w') := hid (fun w => by rw [hv]; exact of_draws (field_4_0 x w x0 x1))
  have HA : Hid (∀ w, Calls Try.prog 26 #[.int .u32 x] w fun e w' => e = .returned (.agg #[.int .i64 3, .int .i64 (v), .int .i64 0]) ∧ Below w.heap.size w w') := hid (fun w => by rw [hv]; exact arg_ArgFcsr40 x w x0 x1)
  clear hv
  by_cases h3 : 3 < v
  · clear HA
    go_enter Try.func10, Try.ntmps10
    go_wp2_with fail
    refine (abs (HF.out _) w.heap.size w (Below.refl _ _) (Nat.le_refl _)).mono ?_
    rintro e w1 ⟨rfl, hb1, hB1⟩
    go_wp2
    go_ret
    exact ⟨rfl, hb1⟩
  · go_enter Try.func10, Try.ntmps10
    go_wp2_with fail
    refine (abs (HF.out _) w.heap.size w (Below.refl _ _) (Nat.le_refl _)).mono ?_
    rintro e w1 ⟨rfl, hb1, hB1⟩
    go_wp2_with fail
    refine (abs (HA.out _) w.heap.size w hb1 hB1).mono ?_
    rintro e w2 ⟨rfl, hb2, hB2⟩
    go_wp2_with fail
    refine (abs (HF.out _) w.heap.size w hb2 hB2).mono ?_
    rintro e w3 ⟨rfl, hb3, hB3⟩
    go_wp2
    go_ret
    exact ⟨rfl, hb3⟩
theorem law_FnArgFcsr95 (x : Int) (w : World) (x0 : 0 ≤ x) (x1 : x ≤ 4294967295) : Calls Try.prog 11 #[.int .u32 x] w fun e w' => e = .returned (.bool true) ∧ Below w.heap.size w w' := by
  obtain ⟨v, hv⟩ : ∃ v, v = x / 32 % 32 := ⟨_, rfl⟩
  have v0 : 0 ≤ v := by omega
  have v1 : v ≤ 31 := by omega
  have HF : Hid (∀ w, Calls Try.prog 17 #[.int .u32 x, .int .i64 9, .int .i64 5] w fun e w' => e = .returned (.int .i64 v) ∧ Below w.heap.size w w') := hid (fun w => by rw [hv]; exact of_draws (field_9_5 x w x0 x1))
  have HA : Hid (∀ w, Calls Try.prog 27 #[.int .u32 x] w fun e w' => e = .returned (.agg #[.int .i64 3, .int .i64 (v), .int .i64 0]) ∧ Below w.heap.size w w') := hid (fun w => by rw [hv]; exact arg_ArgFcsr95 x w x0 x1)
  clear hv
  by_cases h3 : 3 < v
  · clear HA
    go_enter Try.func11, Try.ntmps11
    go_wp2_with fail
    refine (abs (HF.out _) w.heap.size w (Below.refl _ _) (Nat.le_refl _)).mono ?_
    rintro e w1 ⟨rfl, hb1, hB1⟩
    go_wp2
    go_ret
    exact ⟨rfl, hb1⟩
  · go_enter Try.func11, Try.ntmps11
    go_wp2_with fail
    refine (abs (HF.out _) w.heap.size w (Below.refl _ _) (Nat.le_refl _)).mono ?_
    rintro e w1 ⟨rfl, hb1, hB1⟩
    go_wp2_with fail
    refine (abs (HA.out _) w.heap.size w hb1 hB1).mono ?_
    rintro e w2 ⟨rfl, hb2, hB2⟩
    go_wp2_with fail
    refine (abs (HF.out _) w.heap.size w hb2 hB2).mono ?_
    rintro e w3 ⟨rfl, hb3, hB3⟩
    go_wp2
    go_ret
    exact ⟨rfl, hb3⟩
theorem law_FnArgFd (x : Int) (w : World) (x0 : 0 ≤ x) (x1 : x ≤ 4294967295) : Calls Try.prog 12 #[.int .u32 x] w fun e w' => e = .returned (.bool true) ∧ Below w.heap.size w w' := by
  obtain ⟨v, hv⟩ : ∃ v, v = x % 32 := ⟨_, rfl⟩
  have v0 : 0 ≤ v := by omega
  have v1 : v ≤ 31 := by omega
  have HF : Hid (∀ w, Calls Try.prog 17 #[.int .u32 x, .int .i64 4, .int .i64 0] w fun e w' => e = .returned (.int .i64 v) ∧ Below w.heap.size w w') := hid (fun w => by rw [hv]; exact of_draws (field_4_0 x w x0 x1))
  have HA : Hid (∀ w, Calls Try.prog 28 #[.int .u32 x] w fun e w' => e = .returned (.agg #[.int .i64 1, .int .i64 (32 + v), .int .i64 0]) ∧ Below w.heap.size w w') := hid (fun w => by rw [hv]; exact arg_ArgFd x w x0 x1)
  clear hv
  go_enter Try.func12, Try.ntmps12
  go_wp2_with fail
  refine (abs (HA.out _) w.heap.size w (Below.refl _ _) (Nat.le_refl _)).mono ?_
  rintro e w1 ⟨rfl, hb1, hB1⟩
  go_wp2_with fail
  refine (abs (HF.out _) w.heap.size w hb1 hB1).mono ?_
  rintro e w2 ⟨rfl, hb2, hB2⟩
  go_wp2_with fail
  refine (abs (f_any v _ (by omega) (by omega)) w.heap.size w hb2 hB2).mono ?_
  rintro e w3 ⟨rfl, hb3, hB3⟩
  go_wp2_with fail
  refine (abs (like_reg 1 (32 + v) _ (by omega)) w.heap.size w hb3 hB3).mono ?_
  rintro e w4 ⟨rfl, hb4, hB4⟩
  go_wp2
  go_ret
  exact ⟨rfl, hb4⟩
theorem law_FnArgFj (x : Int) (w : World) (x0 : 0 ≤ x) (x1 : x ≤ 4294967295) : Calls Try.prog 13 #[.int .u32 x] w fun e w' => e = .returned (.bool true) ∧ Below w.heap.size w w' := by
  obtain ⟨v, hv⟩ : ∃ v, v = x / 32 % 32 := ⟨_, rfl⟩
  have v0 : 0 ≤ v := by omega
  have v1 : v ≤ 31 := by omega
  have HF : Hid (∀ w, Calls Try.prog 17 #[.int .u32 x, .int .i64 9, .int .i64 5] w fun e w' => e = .returned (.int .i64 v) ∧ Below w.heap.size w w') := hid (fun w => by rw [hv]; exact of_draws (field_9_5 x w x0 x1))
  have HA : Hid (∀ w, Calls Try.prog 29 #[.int .u32 x] w fun e w' => e = .returned (.agg #[.int .i64 1, .int .i64 (32 + v), .int .i64 0]) ∧ Below w.heap.size w w') := hid (fun w => by rw [hv]; exact arg_ArgFj x w x0 x1)
  clear hv
  go_enter Try.func13, Try.ntmps13
  go_wp2_with fail
  refine (abs (HA.out _) w.heap.size w (Below.refl _ _) (Nat.le_refl _)).mono ?_
  rintro e w1 ⟨rfl, hb1, hB1⟩
  go_wp2_with fail
  refine (abs (HF.out _) w.heap.size w hb1 hB1).mono ?_
  rintro e w2 ⟨rfl, hb2, hB2⟩
  go_wp2_with fail
  refine (abs (f_any v _ (by omega) (by omega)) w.heap.size w hb2 hB2).mono ?_
  rintro e w3 ⟨rfl, hb3, hB3⟩
  go_wp2_with fail
  refine (abs (like_reg 1 (32 + v) _ (by omega)) w.heap.size w hb3 hB3).mono ?_
  rintro e w4 ⟨rfl, hb4, hB4⟩
  go_wp2
  go_ret
  exact ⟨rfl, hb4⟩
theorem law_FnArgFk (x : Int) (w : World) (x0 : 0 ≤ x) (x1 : x ≤ 4294967295) : Calls Try.prog 14 #[.int .u32 x] w fun e w' => e = .returned (.bool true) ∧ Below w.heap.size w w' := by
  obtain ⟨v, hv⟩ : ∃ v, v = x / 1024 % 32 := ⟨_, rfl⟩
  have v0 : 0 ≤ v := by omega
  have v1 : v ≤ 31 := by omega
  have HF : Hid (∀ w, Calls Try.prog 17 #[.int .u32 x, .int .i64 14, .int .i64 10] w fun e w' => e = .returned (.int .i64 v) ∧ Below w.heap.size w w') := hid (fun w => by rw [hv]; exact of_draws (field_14_10 x w x0 x1))
  have HA : Hid (∀ w, Calls Try.prog 30 #[.int .u32 x] w fun e w' => e = .returned (.agg #[.int .i64 1, .int .i64 (32 + v), .int .i64 0]) ∧ Below w.heap.size w w') := hid (fun w => by rw [hv]; exact arg_ArgFk x w x0 x1)
  clear hv
  go_enter Try.func14, Try.ntmps14
  go_wp2_with fail
  refine (abs (HA.out _) w.heap.size w (Below.refl _ _) (Nat.le_refl _)).mono ?_
  rintro e w1 ⟨rfl, hb1, hB1⟩
  go_wp2_with fail
  refine (abs (HF.out _) w.heap.size w hb1 hB1).mono ?_
  rintro e w2 ⟨rfl, hb2, hB2⟩
  go_wp2_with fail
  refine (abs (f_any v _ (by omega) (by omega)) w.heap.size w hb2 hB2).mono ?_
  rintro e w3 ⟨rfl, hb3, hB3⟩
  go_wp2_with fail
  refine (abs (like_reg 1 (32 + v) _ (by omega)) w.heap.size w hb3 hB3).mono ?_
  rintro e w4 ⟨rfl, hb4, hB4⟩
  go_wp2
  go_ret
  exact ⟨rfl, hb4⟩
end Go.Proofs.Ytfbdgpopkkmkjaa.Arg
