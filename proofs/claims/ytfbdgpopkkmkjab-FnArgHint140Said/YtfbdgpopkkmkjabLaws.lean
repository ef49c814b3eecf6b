/- The walks of the laws, each over the thin package's and the reference's contracts. -/
import Derived.Test.YtfbdgpopkkmkjabArg
namespace Go.Proofs.Ytfbdgpopkkmkjab.Arg
open Go.RowKit
theorem abs {f : FuncId} {args : Array Value} {w : World} {v : Value} (h : Calls Try.prog f args w fun e w' => e = .returned v ∧ Below w.heap.size w w') (B : Nat) (w0 : World) (hb : Below B w0 w) (hB : B ≤ w.heap.size) :
    Calls Try.prog f args w fun e w' => e = .returned v ∧ Below B w0 w' ∧ B ≤ w'.heap.size :=
  h.mono fun _ _ ⟨he, hx⟩ => ⟨he, hb.trans (hx.mono hB), Nat.le_trans hB hx.size⟩
theorem of_draws {f : FuncId} {args : Array Value} {w : World} {v : Value} (h : Calls Try.prog f args w fun e w' => e = .returned v ∧ ∃ n, w' = w.drewN n) :
    Calls Try.prog f args w fun e w' => e = .returned v ∧ Below w.heap.size w w' :=
  h.mono fun _ _ ⟨he, n, hn⟩ => ⟨he, by rw [hn]; exact bel_drewN (Below.refl _ _) n⟩
theorem of_same {f : FuncId} {args : Array Value} {w : World} {v : Value} (h : Calls Try.prog f args w fun e w' => e = .returned v ∧ w' = w) :
    Calls Try.prog f args w fun e w' => e = .returned v ∧ Below w.heap.size w w' :=
  h.mono fun _ _ ⟨he, hn⟩ => ⟨he, by rw [hn]; exact Below.refl _ _⟩
theorem n_any (v : Int) (w : World)  : Calls Try.prog 17 #[.int .i64 v] w fun e w' => e = .returned (.agg #[.int .i64 4, .int .i64 0, .int .i64 v]) ∧ Below w.heap.size w w' := by
  go_enter Try.func17, Try.ntmps17
  go_wp2
  exact bodyPost_ret (v := .agg #[.int .i64 4, .int .i64 0, .int .i64 v]) (by simp [results, Try.results17, go_sem]) rfl ⟨rfl, by repeat (first | exact Below.refl _ _ | (refine Below.alloc ?_ (by simp; try omega) _))⟩
theorem like_reg (k r : Int) (w : World) (hk : k < 4) : Calls Try.prog 15 #[.agg #[.int .i64 k, .int .i64 r, .int .i64 0], .agg #[.int .i64 k, .int .i64 r, .int .i64 0]] w fun e w' => e = .returned (.bool true) ∧ Below w.heap.size w w' := by
  go_enter Try.func15, Try.ntmps15
  go_wp2
  go_ret
  exact ⟨rfl, by repeat (first | exact Below.refl _ _ | (refine Below.alloc ?_ (by simp; try omega) _))⟩
theorem like_num (k n : Int) (w : World) (hk : 4 ≤ k) (hk2 : k ≤ 8) : Calls Try.prog 15 #[.agg #[.int .i64 k, .int .i64 0, .int .i64 n], .agg #[.int .i64 4, .int .i64 0, .int .i64 n]] w fun e w' => e = .returned (.bool true) ∧ Below w.heap.size w w' := by
  go_enter Try.func15, Try.ntmps15
  go_wp2
  go_ret
  exact ⟨rfl, by repeat (first | exact Below.refl _ _ | (refine Below.alloc ?_ (by simp; try omega) _))⟩
theorem far_z (k s : Int) (w : World) (hk : 4 ≤ k) (hk2 : k ≤ 8) (s0 : -33554432 ≤ s) (s1 : s ≤ 33554432) (hs : s = 0) : Calls Try.prog 26 #[.agg #[.int .i64 k, .int .i64 0, .int .i64 (4 * s)], .int .i64 s] w fun e w' => e = .returned (.bool true) ∧ Below w.heap.size w w' := by
  subst hs
  go_enter Try.func26, Try.ntmps26
  go_wp2
  go_ret
  exact ⟨rfl, by repeat (first | exact Below.refl _ _ | (refine Below.alloc ?_ (by simp; try omega) _))⟩
theorem far_p (k s : Int) (w : World) (hk : 4 ≤ k) (hk2 : k ≤ 8) (s0 : -33554432 ≤ s) (s1 : s ≤ 33554432) (hs : 0 < s) : Calls Try.prog 26 #[.agg #[.int .i64 k, .int .i64 0, .int .i64 (4 * s)], .int .i64 s] w fun e w' => e = .returned (.bool true) ∧ Below w.heap.size w w' := by
  skip
  go_enter Try.func26, Try.ntmps26
  go_wp2
  go_ret
  exact ⟨rfl, by repeat (first | exact Below.refl _ _ | (refine Below.alloc ?_ (by simp; try omega) _))⟩
theorem far_m (k s : Int) (w : World) (hk : 4 ≤ k) (hk2 : k ≤ 8) (s0 : -33554432 ≤ s) (s1 : s ≤ 33554432) (hs : s < 0) : Calls Try.prog 26 #[.agg #[.int .i64 k, .int .i64 0, .int .i64 (4 * s)], .int .i64 s] w fun e w' => e = .returned (.bool true) ∧ Below w.heap.size w w' := by
  skip
  go_enter Try.func26, Try.ntmps26
  go_wp2
  go_ret
  exact ⟨rfl, by repeat (first | exact Below.refl _ _ | (refine Below.alloc ?_ (by simp; try omega) _))⟩
theorem far_any (k s : Int) (w : World) (hk : 4 ≤ k) (hk2 : k ≤ 8) (s0 : -33554432 ≤ s) (s1 : s ≤ 33554432) : Calls Try.prog 26 #[.agg #[.int .i64 k, .int .i64 0, .int .i64 (4 * s)], .int .i64 s] w fun e w' => e = .returned (.bool true) ∧ Below w.heap.size w w' := by
  by_cases hz : s = 0
  · exact far_z k s w hk hk2 s0 s1 hz
  by_cases hp : 0 < s
  · exact far_p k s w hk hk2 s0 s1 hp
  exact far_m k s w hk hk2 s0 s1 (by omega)
theorem signed_16 (v : Int) (w : World) (h0 : 0 ≤ v) (h1 : v < 65536) : Calls Try.prog 37 #[.int .i64 v, .int .i64 16] w fun e w' => e = .returned (.int .i64 (sg 32768 v)) ∧ w' = w := by
  unfold sg
  by_cases hs : 32768 ≤ v
  · rw [if_pos hs]
    go_enter Try.func37, Try.ntmps37
    go_wp2
    go_ret
    exact ⟨rfl, rfl⟩
  · rw [if_neg hs]
    go_enter Try.func37, Try.ntmps37
    go_wp2
    go_ret
    exact ⟨rfl, rfl⟩
theorem signed_21 (v : Int) (w : World) (h0 : 0 ≤ v) (h1 : v < 2097152) : Calls Try.prog 37 #[.int .i64 v, .int .i64 21] w fun e w' => e = .returned (.int .i64 (sg 1048576 v)) ∧ w' = w := by
  unfold sg
  by_cases hs : 1048576 ≤ v
  · rw [if_pos hs]
    go_enter Try.func37, Try.ntmps37
    go_wp2
    go_ret
    exact ⟨rfl, rfl⟩
  · rw [if_neg hs]
    go_enter Try.func37, Try.ntmps37
    go_wp2
    go_ret
    exact ⟨rfl, rfl⟩
theorem signed_26 (v : Int) (w : World) (h0 : 0 ≤ v) (h1 : v < 67108864) : Calls Try.prog 37 #[.int .i64 v, .int .i64 26] w fun e w' => e = .returned (.int .i64 (sg 33554432 v)) ∧ w' = w := by
  unfold sg
  by_cases hs : 33554432 ≤ v
  · rw [if_pos hs]
    go_enter Try.func37, Try.ntmps37
    go_wp2
    go_ret
    exact ⟨rfl, rfl⟩
  · rw [if_neg hs]
    go_enter Try.func37, Try.ntmps37
    go_wp2
    go_ret
    exact ⟨rfl, rfl⟩
theorem off16 (x : Int) (w : World) (x0 : 0 ≤ x) (x1 : x ≤ 4294967295) : Calls Try.prog 28 #[.int .u32 x] w fun e w' => e = .returned (.int .i64 (sg 32768 (x / 1024 % 65536))) ∧ Below w.heap.size w w' := by
  obtain ⟨p, hp⟩ : ∃ v, v = x / 1024 % 65536 := ⟨_, rfl⟩
  have p0 : 0 ≤ p := by omega
  have p1 : p ≤ 65535 := by omega
  have Hp : Hid (∀ w, Calls Try.prog 18 #[.int .u32 x, .int .i64 25, .int .i64 10] w fun e w' => e = .returned (.int .i64 p) ∧ Below w.heap.size w w') := hid (fun w => by rw [hp]; exact of_draws (field_25_10 x w x0 x1))
  rw [← hp]
  clear hp
  go_enter Try.func28, Try.ntmps28
  go_wp2_with fail
  refine (abs (Hp.out _) w.heap.size w (Below.refl _ _) (Nat.le_refl _)).mono ?_
  rintro e w1 ⟨rfl, hb1, hB1⟩
  go_wp2_with fail
  refine (abs (of_same (signed_16 (p) _ (by omega) (by omega))) w.heap.size w hb1 hB1).mono ?_
  rintro e w2 ⟨rfl, hb2, hB2⟩
  go_wp2
  go_ret
  exact ⟨rfl, hb2⟩
theorem off21 (x : Int) (w : World) (x0 : 0 ≤ x) (x1 : x ≤ 4294967295) : Calls Try.prog 30 #[.int .u32 x] w fun e w' => e = .returned (.int .i64 (sg 1048576 (x % 32 * 65536 + x / 1024 % 65536))) ∧ Below w.heap.size w w' := by
  obtain ⟨p, hp⟩ : ∃ v, v = x % 32 := ⟨_, rfl⟩
  have p0 : 0 ≤ p := by omega
  have p1 : p ≤ 31 := by omega
  have Hp : Hid (∀ w, Calls Try.prog 18 #[.int .u32 x, .int .i64 4, .int .i64 0] w fun e w' => e = .returned (.int .i64 p) ∧ Below w.heap.size w w') := hid (fun w => by rw [hp]; exact of_draws (field_4_0 x w x0 x1))
  obtain ⟨q, hq⟩ : ∃ v, v = x / 1024 % 65536 := ⟨_, rfl⟩
  have q0 : 0 ≤ q := by omega
  have q1 : q ≤ 65535 := by omega
  have Hq : Hid (∀ w, Calls Try.prog 18 #[.int .u32 x, .int .i64 25, .int .i64 10] w fun e w' => e = .returned (.int .i64 q) ∧ Below w.heap.size w w') := hid (fun w => by rw [hq]; exact of_draws (field_25_10 x w x0 x1))
  rw [← hp, ← hq]
  clear hp hq
  go_enter Try.func30, Try.ntmps30
  go_wp2_with fail
  refine (abs (Hp.out _) w.heap.size w (Below.refl _ _) (Nat.le_refl _)).mono ?_
  rintro e w1 ⟨rfl, hb1, hB1⟩
  go_wp2_with fail
  refine (abs (Hq.out _) w.heap.size w hb1 hB1).mono ?_
  rintro e w2 ⟨rfl, hb2, hB2⟩
  go_wp2_with fail
  refine (abs (of_same (signed_21 (p * 65536 + q) _ (by omega) (by omega))) w.heap.size w hb2 hB2).mono ?_
  rintro e w3 ⟨rfl, hb3, hB3⟩
  go_wp2
  go_ret
  exact ⟨rfl, hb3⟩
theorem off26 (x : Int) (w : World) (x0 : 0 ≤ x) (x1 : x ≤ 4294967295) : Calls Try.prog 32 #[.int .u32 x] w fun e w' => e = .returned (.int .i64 (sg 33554432 (x % 1024 * 65536 + x / 1024 % 65536))) ∧ Below w.heap.size w w' := by
  obtain ⟨p, hp⟩ : ∃ v, v = x % 1024 := ⟨_, rfl⟩
  have p0 : 0 ≤ p := by omega
  have p1 : p ≤ 1023 := by omega
  have Hp : Hid (∀ w, Calls Try.prog 18 #[.int .u32 x, .int .i64 9, .int .i64 0] w fun e w' => e = .returned (.int .i64 p) ∧ Below w.heap.size w w') := hid (fun w => by rw [hp]; exact of_draws (field_9_0 x w x0 x1))
  obtain ⟨q, hq⟩ : ∃ v, v = x / 1024 % 65536 := ⟨_, rfl⟩
  have q0 : 0 ≤ q := by omega
  have q1 : q ≤ 65535 := by omega
  have Hq : Hid (∀ w, Calls Try.prog 18 #[.int .u32 x, .int .i64 25, .int .i64 10] w fun e w' => e = .returned (.int .i64 q) ∧ Below w.heap.size w w') := hid (fun w => by rw [hq]; exact of_draws (field_25_10 x w x0 x1))
  rw [← hp, ← hq]
  clear hp hq
  go_enter Try.func32, Try.ntmps32
  go_wp2_with fail
  refine (abs (Hp.out _) w.heap.size w (Below.refl _ _) (Nat.le_refl _)).mono ?_
  rintro e w1 ⟨rfl, hb1, hB1⟩
  go_wp2_with fail
  refine (abs (Hq.out _) w.heap.size w hb1 hB1).mono ?_
  rintro e w2 ⟨rfl, hb2, hB2⟩
  go_wp2_with fail
  refine (abs (of_same (signed_26 (p * 65536 + q) _ (by omega) (by omega))) w.heap.size w hb2 hB2).mono ?_
  rintro e w3 ⟨rfl, hb3, hB3⟩
  go_wp2
  go_ret
  exact ⟨rfl, hb3⟩
theorem law_FnArgHint140 (x : Int) (w : World) (x0 : 0 ≤ x) (x1 : x ≤ 4294967295) : Calls Try.prog 3 #[.int .u32 x] w fun e w' => e = .returned (.bool true) ∧ Below w.heap.size w w' := by
  obtain ⟨v, hv⟩ : ∃ v, v = x % 32768 := ⟨_, rfl⟩
  have v0 : 0 ≤ v := by omega
  have v1 : v ≤ 32767 := by omega
  have HF : Hid (∀ w, Calls Try.prog 18 #[.int .u32 x, .int .i64 14, .int .i64 0] w fun e w' => e = .returned (.int .i64 v) ∧ Below w.heap.size w w') := hid (fun w => by rw [hv]; exact of_draws (field_14_0 x w x0 x1))
  have HA : Hid (∀ w, Calls Try.prog 16 #[.int .u32 x] w fun e w' => e = .returned (.agg #[.int .i64 5, .int .i64 0, .int .i64 (v)]) ∧ Below w.heap.size w w') := hid (fun w => by rw [hv]; exact arg_ArgHint140 x w x0 x1)
  clear hv
  go_enter Try.func3, Try.ntmps3
  go_wp2_with fail
  refine (abs (HA.out _) w.heap.size w (Below.refl _ _) (Nat.le_refl _)).mono ?_
  rintro e w1 ⟨rfl, hb1, hB1⟩
  go_wp2_with fail
  refine (abs (HF.out _) w.heap.size w hb1 hB1).mono ?_
  rintro e w2 ⟨rfl, hb2, hB2⟩
  go_wp2_with fail
  refine (abs (n_any v _) w.heap.size w hb2 hB2).mono ?_
  rintro e w3 ⟨rfl, hb3, hB3⟩
  go_wp2_with fail
  refine (abs (like_num 5 v _ (by omega) (by omega)) w.heap.size w hb3 hB3).mono ?_
  rintro e w4 ⟨rfl, hb4, hB4⟩
  go_wp2
  go_ret
  exact ⟨rfl, hb4⟩
theorem law_FnArgHint40 (x : Int) (w : World) (x0 : 0 ≤ x) (x1 : x ≤ 4294967295) : Calls Try.prog 4 #[.int .u32 x] w fun e w' => e = .returned (.bool true) ∧ Below w.heap.size w w' := by
  obtain ⟨v, hv⟩ : ∃ v, v = x % 32 := ⟨_, rfl⟩
  have v0 : 0 ≤ v := by omega
  have v1 : v ≤ 31 := by omega
  have HF : Hid (∀ w, Calls Try.prog 18 #[.int .u32 x, .int .i64 4, .int .i64 0] w fun e w' => e = .returned (.int .i64 v) ∧ Below w.heap.size w w') := hid (fun w => by rw [hv]; exact of_draws (field_4_0 x w x0 x1))
  have HA : Hid (∀ w, Calls Try.prog 19 #[.int .u32 x] w fun e w' => e = .returned (.agg #[.int .i64 5, .int .i64 0, .int .i64 (v)]) ∧ Below w.heap.size w w') := hid (fun w => by rw [hv]; exact arg_ArgHint40 x w x0 x1)
  clear hv
  go_enter Try.func4, Try.ntmps4
  go_wp2_with fail
  refine (abs (HA.out _) w.heap.size w (Below.refl _ _) (Nat.le_refl _)).mono ?_
  rintro e w1 ⟨rfl, hb1, hB1⟩
  go_wp2_with fail
  refine (abs (HF.out _) w.heap.size w hb1 hB1).mono ?_
  rintro e w2 ⟨rfl, hb2, hB2⟩
  go_wp2_with fail
  refine (abs (n_any v _) w.heap.size w hb2 hB2).mono ?_
  rintro e w3 ⟨rfl, hb3, hB3⟩
  go_wp2_with fail
  refine (abs (like_num 5 v _ (by omega) (by omega)) w.heap.size w hb3 hB3).mono ?_
  rintro e w4 ⟨rfl, hb4, hB4⟩
  go_wp2
  go_ret
  exact ⟨rfl, hb4⟩
theorem law_FnArgLevel140 (x : Int) (w : World) (x0 : 0 ≤ x) (x1 : x ≤ 4294967295) : Calls Try.prog 5 #[.int .u32 x] w fun e w' => e = .returned (.bool true) ∧ Below w.heap.size w w' := by
  obtain ⟨v, hv⟩ : ∃ v, v = x % 32768 := ⟨_, rfl⟩
  have v0 : 0 ≤ v := by omega
  have v1 : v ≤ 32767 := by omega
  have HF : Hid (∀ w, Calls Try.prog 18 #[.int .u32 x, .int .i64 14, .int .i64 0] w fun e w' => e = .returned (.int .i64 v) ∧ Below w.heap.size w w') := hid (fun w => by rw [hv]; exact of_draws (field_14_0 x w x0 x1))
  have HA : Hid (∀ w, Calls Try.prog 20 #[.int .u32 x] w fun e w' => e = .returned (.agg #[.int .i64 5, .int .i64 0, .int .i64 (v)]) ∧ Below w.heap.size w w') := hid (fun w => by rw [hv]; exact arg_ArgLevel140 x w x0 x1)
  clear hv
  go_enter Try.func5, Try.ntmps5
  go_wp2_with fail
  refine (abs (HA.out _) w.heap.size w (Below.refl _ _) (Nat.le_refl _)).mono ?_
  rintro e w1 ⟨rfl, hb1, hB1⟩
  go_wp2_with fail
  refine (abs (HF.out _) w.heap.size w hb1 hB1).mono ?_
  rintro e w2 ⟨rfl, hb2, hB2⟩
  go_wp2_with fail
  refine (abs (n_any v _) w.heap.size w hb2 hB2).mono ?_
  rintro e w3 ⟨rfl, hb3, hB3⟩
  go_wp2_with fail
  refine (abs (like_num 5 v _ (by omega) (by omega)) w.heap.size w hb3 hB3).mono ?_
  rintro e w4 ⟨rfl, hb4, hB4⟩
  go_wp2
  go_ret
  exact ⟨rfl, hb4⟩
theorem law_FnArgLevel1710 (x : Int) (w : World) (x0 : 0 ≤ x) (x1 : x ≤ 4294967295) : Calls Try.prog 6 #[.int .u32 x] w fun e w' => e = .returned (.bool true) ∧ Below w.heap.size w w' := by
  obtain ⟨v, hv⟩ : ∃ v, v = x / 1024 % 256 := ⟨_, rfl⟩
  have v0 : 0 ≤ v := by omega
  have v1 : v ≤ 255 := by omega
  have HF : Hid (∀ w, Calls Try.prog 18 #[.int .u32 x, .int .i64 17, .int .i64 10] w fun e w' => e = .returned (.int .i64 v) ∧ Below w.heap.size w w') := hid (fun w => by rw [hv]; exact of_draws (field_17_10 x w x0 x1))
  have HA : Hid (∀ w, Calls Try.prog 21 #[.int .u32 x] w fun e w' => e = .returned (.agg #[.int .i64 5, .int .i64 0, .int .i64 (v)]) ∧ Below w.heap.size w w') := hid (fun w => by rw [hv]; exact arg_ArgLevel1710 x w x0 x1)
  clear hv
  go_enter Try.func6, Try.ntmps6
  go_wp2_with fail
  refine (abs (HA.out _) w.heap.size w (Below.refl _ _) (Nat.le_refl _)).mono ?_
  rintro e w1 ⟨rfl, hb1, hB1⟩
  go_wp2_with fail
  refine (abs (HF.out _) w.heap.size w hb1 hB1).mono ?_
  rintro e w2 ⟨rfl, hb2, hB2⟩
  go_wp2_with fail
  refine (abs (n_any v _) w.heap.size w hb2 hB2).mono ?_
  rintro e w3 ⟨rfl, hb3, hB3⟩
  go_wp2_with fail
  refine (abs (like_num 5 v _ (by omega) (by omega)) w.heap.size w hb3 hB3).mono ?_
  rintro e w4 ⟨rfl, hb4, hB4⟩
  go_wp2
  go_ret
  exact ⟨rfl, hb4⟩
theorem law_FnArgLsbd (x : Int) (w : World) (x0 : 0 ≤ x) (x1 : x ≤ 4294967295) : Calls Try.prog 7 #[.int .u32 x] w fun e w' => e = .returned (.bool true) ∧ Below w.heap.size w w' := by
  obtain ⟨v, hv⟩ : ∃ v, v = x / 1024 % 64 := ⟨_, rfl⟩
  have v0 : 0 ≤ v := by omega
  have v1 : v ≤ 63 := by omega
  have HF : Hid (∀ w, Calls Try.prog 18 #[.int .u32 x, .int .i64 15, .int .i64 10] w fun e w' => e = .returned (.int .i64 v) ∧ Below w.heap.size w w') := hid (fun w => by rw [hv]; exact of_draws (field_15_10 x w x0 x1))
  have HA : Hid (∀ w, Calls Try.prog 22 #[.int .u32 x] w fun e w' => e = .returned (.agg #[.int .i64 5, .int .i64 0, .int .i64 (v)]) ∧ Below w.heap.size w w') := hid (fun w => by rw [hv]; exact arg_ArgLsbd x w x0 x1)
  clear hv
  go_enter Try.func7, Try.ntmps7
  go_wp2_with fail
  refine (abs (HA.out _) w.heap.size w (Below.refl _ _) (Nat.le_refl _)).mono ?_
  rintro e w1 ⟨rfl, hb1, hB1⟩
  go_wp2_with fail
  refine (abs (HF.out _) w.heap.size w hb1 hB1).mono ?_
  rintro e w2 ⟨rfl, hb2, hB2⟩
  go_wp2_with fail
  refine (abs (n_any v _) w.heap.size w hb2 hB2).mono ?_
  rintro e w3 ⟨rfl, hb3, hB3⟩
  go_wp2_with fail
  refine (abs (like_num 5 v _ (by omega) (by omega)) w.heap.size w hb3 hB3).mono ?_
  rintro e w4 ⟨rfl, hb4, hB4⟩
  go_wp2
  go_ret
  exact ⟨rfl, hb4⟩
theorem law_FnArgLsbw (x : Int) (w : World) (x0 : 0 ≤ x) (x1 : x ≤ 4294967295) : Calls Try.prog 8 #[.int .u32 x] w fun e w' => e = .returned (.bool true) ∧ Below w.heap.size w w' := by
  obtain ⟨v, hv⟩ : ∃ v, v = x / 1024 % 32 := ⟨_, rfl⟩
  have v0 : 0 ≤ v := by omega
  have v1 : v ≤ 31 := by omega
  have HF : Hid (∀ w, Calls Try.prog 18 #[.int .u32 x, .int .i64 14, .int .i64 10] w fun e w' => e = .returned (.int .i64 v) ∧ Below w.heap.size w w') := hid (fun w => by rw [hv]; exact of_draws (field_14_10 x w x0 x1))
  have HA : Hid (∀ w, Calls Try.prog 23 #[.int .u32 x] w fun e w' => e = .returned (.agg #[.int .i64 5, .int .i64 0, .int .i64 (v)]) ∧ Below w.heap.size w w') := hid (fun w => by rw [hv]; exact arg_ArgLsbw x w x0 x1)
  clear hv
  go_enter Try.func8, Try.ntmps8
  go_wp2_with fail
  refine (abs (HA.out _) w.heap.size w (Below.refl _ _) (Nat.le_refl _)).mono ?_
  rintro e w1 ⟨rfl, hb1, hB1⟩
  go_wp2_with fail
  refine (abs (HF.out _) w.heap.size w hb1 hB1).mono ?_
  rintro e w2 ⟨rfl, hb2, hB2⟩
  go_wp2_with fail
  refine (abs (n_any v _) w.heap.size w hb2 hB2).mono ?_
  rintro e w3 ⟨rfl, hb3, hB3⟩
  go_wp2_with fail
  refine (abs (like_num 5 v _ (by omega) (by omega)) w.heap.size w hb3 hB3).mono ?_
  rintro e w4 ⟨rfl, hb4, hB4⟩
  go_wp2
  go_ret
  exact ⟨rfl, hb4⟩
theorem law_FnArgMsbd (x : Int) (w : World) (x0 : 0 ≤ x) (x1 : x ≤ 4294967295) : Calls Try.prog 9 #[.int .u32 x] w fun e w' => e = .returned (.bool true) ∧ Below w.heap.size w w' := by
  obtain ⟨v, hv⟩ : ∃ v, v = x / 65536 % 64 := ⟨_, rfl⟩
  have v0 : 0 ≤ v := by omega
  have v1 : v ≤ 63 := by omega
  have HF : Hid (∀ w, Calls Try.prog 18 #[.int .u32 x, .int .i64 21, .int .i64 16] w fun e w' => e = .returned (.int .i64 v) ∧ Below w.heap.size w w') := hid (fun w => by rw [hv]; exact of_draws (field_21_16 x w x0 x1))
  have HA : Hid (∀ w, Calls Try.prog 24 #[.int .u32 x] w fun e w' => e = .returned (.agg #[.int .i64 5, .int .i64 0, .int .i64 (v)]) ∧ Below w.heap.size w w') := hid (fun w => by rw [hv]; exact arg_ArgMsbd x w x0 x1)
  clear hv
  go_enter Try.func9, Try.ntmps9
  go_wp2_with fail
  refine (abs (HA.out _) w.heap.size w (Below.refl _ _) (Nat.le_refl _)).mono ?_
  rintro e w1 ⟨rfl, hb1, hB1⟩
  go_wp2_with fail
  refine (abs (HF.out _) w.heap.size w hb1 hB1).mono ?_
  rintro e w2 ⟨rfl, hb2, hB2⟩
  go_wp2_with fail
  refine (abs (n_any v _) w.heap.size w hb2 hB2).mono ?_
  rintro e w3 ⟨rfl, hb3, hB3⟩
  go_wp2_with fail
  refine (abs (like_num 5 v _ (by omega) (by omega)) w.heap.size w hb3 hB3).mono ?_
  rintro e w4 ⟨rfl, hb4, hB4⟩
  go_wp2
  go_ret
  exact ⟨rfl, hb4⟩
theorem law_FnArgMsbw (x : Int) (w : World) (x0 : 0 ≤ x) (x1 : x ≤ 4294967295) : Calls Try.prog 10 #[.int .u32 x] w fun e w' => e = .returned (.bool true) ∧ Below w.heap.size w w' := by
  obtain ⟨v, hv⟩ : ∃ v, v = x / 65536 % 32 := ⟨_, rfl⟩
  have v0 : 0 ≤ v := by omega
  have v1 : v ≤ 31 := by omega
  have HF : Hid (∀ w, Calls Try.prog 18 #[.int .u32 x, .int .i64 20, .int .i64 16] w fun e w' => e = .returned (.int .i64 v) ∧ Below w.heap.size w w') := hid (fun w => by rw [hv]; exact of_draws (field_20_16 x w x0 x1))
  have HA : Hid (∀ w, Calls Try.prog 25 #[.int .u32 x] w fun e w' => e = .returned (.agg #[.int .i64 5, .int .i64 0, .int .i64 (v)]) ∧ Below w.heap.size w w') := hid (fun w => by rw [hv]; exact arg_ArgMsbw x w x0 x1)
  clear hv
  go_enter Try.func10, Try.ntmps10
  go_wp2_with fail
  refine (abs (HA.out _) w.heap.size w (Below.refl _ _) (Nat.le_refl _)).mono ?_
  rintro e w1 ⟨rfl, hb1, hB1⟩
  go_wp2_with fail
  refine (abs (HF.out _) w.heap.size w hb1 hB1).mono ?_
  rintro e w2 ⟨rfl, hb2, hB2⟩
  go_wp2_with fail
  refine (abs (n_any v _) w.heap.size w hb2 hB2).mono ?_
  rintro e w3 ⟨rfl, hb3, hB3⟩
  go_wp2_with fail
  refine (abs (like_num 5 v _ (by omega) (by omega)) w.heap.size w hb3 hB3).mono ?_
  rintro e w4 ⟨rfl, hb4, hB4⟩
  go_wp2
  go_ret
  exact ⟨rfl, hb4⟩
theorem law_FnArgOffset150 (x : Int) (w : World) (x0 : 0 ≤ x) (x1 : x ≤ 4294967295) : Calls Try.prog 11 #[.int .u32 x] w fun e w' => e = .returned (.bool true) ∧ Below w.heap.size w w' := by
  obtain ⟨s, hs⟩ : ∃ s, s = sg 32768 (x / 1024 % 65536) := ⟨_, rfl⟩
  have s0 : -32768 ≤ s := by rw [hs]; unfold sg; split <;> omega
  have s1 : s < 32768 := by rw [hs]; unfold sg; split <;> omega
  have HA : Hid (∀ w, Calls Try.prog 27 #[.int .u32 x] w fun e w' => e = .returned (.agg #[.int .i64 6, .int .i64 0, .int .i64 (4 * s)]) ∧ Below w.heap.size w w') := hid (fun w => by rw [hs]; exact arg_ArgOffset150 x w x0 x1)
  have HO : Hid (∀ w, Calls Try.prog 28 #[.int .u32 x] w fun e w' => e = .returned (.int .i64 s) ∧ Below w.heap.size w w') := hid (fun w => by rw [hs]; exact off16 x w x0 x1)
  clear hs
  go_enter Try.func11, Try.ntmps11
  go_wp2_with fail
  refine (abs (HA.out _) w.heap.size w (Below.refl _ _) (Nat.le_refl _)).mono ?_
  rintro e w1 ⟨rfl, hb1, hB1⟩
  go_wp2_with fail
  refine (abs (HO.out _) w.heap.size w hb1 hB1).mono ?_
  rintro e w2 ⟨rfl, hb2, hB2⟩
  go_wp2_with fail
  refine (abs (far_any 6 s _ (by omega) (by omega) (by omega) (by omega)) w.heap.size w hb2 hB2).mono ?_
  rintro e w3 ⟨rfl, hb3, hB3⟩
  go_wp2
  go_ret
  exact ⟨rfl, hb3⟩
theorem law_FnArgOffset200 (x : Int) (w : World) (x0 : 0 ≤ x) (x1 : x ≤ 4294967295) : Calls Try.prog 12 #[.int .u32 x] w fun e w' => e = .returned (.bool true) ∧ Below w.heap.size w w' := by
  obtain ⟨s, hs⟩ : ∃ s, s = sg 1048576 (x % 32 * 65536 + x / 1024 % 65536) := ⟨_, rfl⟩
  have s0 : -1048576 ≤ s := by rw [hs]; unfold sg; split <;> omega
  have s1 : s < 1048576 := by rw [hs]; unfold sg; split <;> omega
  have HA : Hid (∀ w, Calls Try.prog 29 #[.int .u32 x] w fun e w' => e = .returned (.agg #[.int .i64 6, .int .i64 0, .int .i64 (4 * s)]) ∧ Below w.heap.size w w') := hid (fun w => by rw [hs]; exact arg_ArgOffset200 x w x0 x1)
  have HO : Hid (∀ w, Calls Try.prog 30 #[.int .u32 x] w fun e w' => e = .returned (.int .i64 s) ∧ Below w.heap.size w w') := hid (fun w => by rw [hs]; exact off21 x w x0 x1)
  clear hs
  go_enter Try.func12, Try.ntmps12
  go_wp2_with fail
  refine (abs (HA.out _) w.heap.size w (Below.refl _ _) (Nat.le_refl _)).mono ?_
  rintro e w1 ⟨rfl, hb1, hB1⟩
  go_wp2_with fail
  refine (abs (HO.out _) w.heap.size w hb1 hB1).mono ?_
  rintro e w2 ⟨rfl, hb2, hB2⟩
  go_wp2_with fail
  refine (abs (far_any 6 s _ (by omega) (by omega) (by omega) (by omega)) w.heap.size w hb2 hB2).mono ?_
  rintro e w3 ⟨rfl, hb3, hB3⟩
  go_wp2
  go_ret
  exact ⟨rfl, hb3⟩
theorem law_FnArgOffset250 (x : Int) (w : World) (x0 : 0 ≤ x) (x1 : x ≤ 4294967295) : Calls Try.prog 13 #[.int .u32 x] w fun e w' => e = .returned (.bool true) ∧ Below w.heap.size w w' := by
  obtain ⟨s, hs⟩ : ∃ s, s = sg 33554432 (x % 1024 * 65536 + x / 1024 % 65536) := ⟨_, rfl⟩
  have s0 : -33554432 ≤ s := by rw [hs]; unfold sg; split <;> omega
  have s1 : s < 33554432 := by rw [hs]; unfold sg; split <;> omega
  have HA : Hid (∀ w, Calls Try.prog 31 #[.int .u32 x] w fun e w' => e = .returned (.agg #[.int .i64 6, .int .i64 0, .int .i64 (4 * s)]) ∧ Below w.heap.size w w') := hid (fun w => by rw [hs]; exact arg_ArgOffset250 x w x0 x1)
  have HO : Hid (∀ w, Calls Try.prog 32 #[.int .u32 x] w fun e w' => e = .returned (.int .i64 s) ∧ Below w.heap.size w w') := hid (fun w => by rw [hs]; exact off26 x w x0 x1)
  clear hs
  go_enter Try.func13, Try.ntmps13
  go_wp2_with fail
  refine (abs (HA.out _) w.heap.size w (Below.refl _ _) (Nat.le_refl _)).mono ?_
  rintro e w1 ⟨rfl, hb1, hB1⟩
  go_wp2_with fail
  refine (abs (HO.out _) w.heap.size w hb1 hB1).mono ?_
  rintro e w2 ⟨rfl, hb2, hB2⟩
  go_wp2_with fail
  refine (abs (far_any 6 s _ (by omega) (by omega) (by omega) (by omega)) w.heap.size w hb2 hB2).mono ?_
  rintro e w3 ⟨rfl, hb3, hB3⟩
  go_wp2
  go_ret
  exact ⟨rfl, hb3⟩
theorem law_FnArgOp40 (x : Int) (w : World) (x0 : 0 ≤ x) (x1 : x ≤ 4294967295) : Calls Try.prog 14 #[.int .u32 x] w fun e w' => e = .returned (.bool true) ∧ Below w.heap.size w w' := by
  obtain ⟨v, hv⟩ : ∃ v, v = x % 32 := ⟨_, rfl⟩
  have v0 : 0 ≤ v := by omega
  have v1 : v ≤ 31 := by omega
  have HF : Hid (∀ w, Calls Try.prog 18 #[.int .u32 x, .int .i64 4, .int .i64 0] w fun e w' => e = .returned (.int .i64 v) ∧ Below w.heap.size w w') := hid (fun w => by rw [hv]; exact of_draws (field_4_0 x w x0 x1))
  have HA : Hid (∀ w, Calls Try.prog 33 #[.int .u32 x] w fun e w' => e = .returned (.agg #[.int .i64 5, .int .i64 0, .int .i64 (v)]) ∧ Below w.heap.size w w') := hid (fun w => by rw [hv]; exact arg_ArgOp40 x w x0 x1)
  clear hv
  go_enter Try.func14, Try.ntmps14
  go_wp2_with fail
  refine (abs (HA.out _) w.heap.size w (Below.refl _ _) (Nat.le_refl _)).mono ?_
  rintro e w1 ⟨rfl, hb1, hB1⟩
  go_wp2_with fail
  refine (abs (HF.out _) w.heap.size w hb1 hB1).mono ?_
  rintro e w2 ⟨rfl, hb2, hB2⟩
  go_wp2_with fail
  refine (abs (n_any v _) w.heap.size w hb2 hB2).mono ?_
  rintro e w3 ⟨rfl, hb3, hB3⟩
  go_wp2_with fail
  refine (abs (like_num 5 v _ (by omega) (by omega)) w.heap.size w hb3 hB3).mono ?_
  rintro e w4 ⟨rfl, hb4, hB4⟩
  go_wp2
  go_ret
  exact ⟨rfl, hb4⟩
end Go.Proofs.Ytfbdgpopkkmkjab.Arg
